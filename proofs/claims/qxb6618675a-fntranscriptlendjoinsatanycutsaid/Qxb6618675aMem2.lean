/-
  MESSAGES IN MEMORY, WITH A FOOTPRINT: 'RMp w P v x': every cell that is read satisfies P (block, offset). No dump.
-/
import Derived.Test.Qxb6618675aMem
namespace Go.Proofs.Qxb6618675a.mem
open Go.RowKit

def RLp {α : Type} (At : Nat → Nat → α → Prop) (sz : Nat) (v : Value) : Option (List α) → Prop
  | none => v = .slice none 0 0
  | some l => ∃ a c, v = .slice (some a) l.length c ∧ l.length ≤ c ∧ c ≤ maxLen ∧ ∀ i m, l[i]? = some m → a.spot = none ∧ At a.block (a.off + i * sz) m

theorem RLp.mono {α : Type} {At At' : Nat → Nat → α → Prop} {sz : Nat} {v : Value} {x : Option (List α)} (h : ∀ b o m, At b o m → At' b o m) (hr : RLp At sz v x) : RLp At' sz v x := by
  cases x with
  | none => exact hr
  | some l =>
    obtain ⟨a, c, rfl, h1, h2, h3⟩ := hr
    exact ⟨a, c, rfl, h1, h2, fun i m hm => ⟨(h3 i m hm).1, h _ _ _ (h3 i m hm).2⟩⟩

theorem RLp.toB {α : Type} {At At' : Nat → Nat → α → Prop} {sz B : Nat} {v : Value} {x : Option (List α)} (h : ∀ b o m, At b o m → b < B ∧ At' b o m) (hr : RLp At sz v x) : RL At' sz B v x := by
  cases x with
  | none => exact hr
  | some l =>
    obtain ⟨a, c, rfl, h1, h2, h3⟩ := hr
    exact ⟨a, c, rfl, h1, h2, fun i m hm => ⟨(h3 i m hm).1, h _ _ _ (h3 i m hm).2⟩⟩

/-- nil or not, in one form -/
theorem RLp.form {α : Type} {At : Nat → Nat → α → Prop} {sz : Nat} {v : Value} {x : Option (List α)} (h : RLp At sz v x) :
    ∃ a n c, v = .slice a n c ∧ (x.getD []).length = n ∧ n ≤ c ∧ c ≤ 9223372036854775807 ∧ (x = none ↔ a = none) ∧ (a = none → n = 0 ∧ c = 0) ∧
      ∀ i, i < n → ∃ m b o, (x.getD [])[i]? = some m ∧ a = some ⟨b, o, none⟩ ∧ At b (o + i * sz) m := by
  cases x with
  | none =>
    cases h
    exact ⟨none, 0, 0, rfl, rfl, Nat.le_refl _, Nat.zero_le _, by simp, fun _ => ⟨rfl, rfl⟩, fun i hi => by omega⟩
  | some l =>
    obtain ⟨a, c, rfl, h1, h2, h3⟩ := h
    refine ⟨some a, l.length, c, rfl, rfl, h1, h2, by simp, fun h => by (cases h), fun i hi => ?_⟩
    have hm : l[i]? = some l[i] := List.getElem?_eq_getElem hi
    obtain ⟨k1, k3⟩ := h3 i _ hm
    obtain ⟨b, o, sp⟩ := a
    cases k1
    exact ⟨l[i], b, o, hm, rfl, k3⟩

def ByteP (w : World) (P : Nat → Nat → Prop) (b o : Nat) (u : UInt8) : Prop := P b o ∧ w.cell? ⟨b, o, none⟩ = some (.int .u8 (u.toNat : Int))
def RBp (w : World) (P : Nat → Nat → Prop) (v : Value) (x : Option (List UInt8)) : Prop := RLp (ByteP w P) 1 v x
def CallP (w : World) (P : Nat → Nat → Prop) (b o : Nat) (c : Call) : Prop :=
  ∃ v, (P b o ∧ P b (o + 1) ∧ P b (o + 2)) ∧ w.cell? ⟨b, o, none⟩ = some (.string c.id) ∧ w.cell? ⟨b, o + 1, none⟩ = some (.string c.name) ∧ w.cell? ⟨b, o + 2, none⟩ = some v ∧ RBp w P v c.args ∧ c.id.size ≤ maxLen ∧ c.name.size ≤ maxLen
def RCp (w : World) (P : Nat → Nat → Prop) (v : Value) (x : Option (List Call)) : Prop := RLp (CallP w P) 3 v x
def ResP (w : World) (P : Nat → Nat → Prop) (b o : Nat) (r : Res) : Prop :=
  (P b o ∧ P b (o + 1) ∧ P b (o + 2) ∧ P b (o + 3)) ∧ ResAt w b o r
def RRp (w : World) (P : Nat → Nat → Prop) (v : Value) (x : Option (List Res)) : Prop := RLp (ResP w P) 4 v x
def MsgP (w : World) (P : Nat → Nat → Prop) (b o : Nat) (m : Msg) : Prop :=
  ∃ v3 v4, w.cell? ⟨b, o, none⟩ = some (.string m.role) ∧ w.cell? ⟨b, o + 1, none⟩ = some (.string m.text) ∧ w.cell? ⟨b, o + 2, none⟩ = some (.string m.refusal) ∧
    w.cell? ⟨b, o + 3, none⟩ = some v3 ∧ w.cell? ⟨b, o + 4, none⟩ = some v4 ∧ RCp w P v3 m.calls ∧ RRp w P v4 m.res ∧ m.role.size ≤ maxLen ∧ m.text.size ≤ maxLen ∧ m.refusal.size ≤ maxLen

def Agree (P : Nat → Nat → Prop) (w w1 : World) : Prop := ∀ b o, P b o → ∀ v, w.cell? ⟨b, o, none⟩ = some v → w1.cell? ⟨b, o, none⟩ = some v

section
variable {P P' : Nat → Nat → Prop} {w w1 : World}
theorem ByteP.kept {b o : Nat} {u : UInt8} (h : ByteP w P b o u) (hf : Agree P w w1) (hP : ∀ b o, P b o → P' b o) : ByteP w1 P' b o u := ⟨hP _ _ h.1, hf _ _ h.1 _ h.2⟩
theorem RBp.kept {v : Value} {x : Option (List UInt8)} (h : RBp w P v x) (hf : Agree P w w1) (hP : ∀ b o, P b o → P' b o) : RBp w1 P' v x := RLp.mono (fun _ _ _ k => k.kept hf hP) h
theorem CallP.kept {b o : Nat} {c : Call} (h : CallP w P b o c) (hf : Agree P w w1) (hP : ∀ b o, P b o → P' b o) : CallP w1 P' b o c := by
  obtain ⟨v, ⟨p0, p1, p2⟩, h0, h1, h2, h3, h4⟩ := h
  exact ⟨v, ⟨hP _ _ p0, hP _ _ p1, hP _ _ p2⟩, hf _ _ p0 _ h0, hf _ _ p1 _ h1, hf _ _ p2 _ h2, h3.kept hf hP, h4⟩
theorem RCp.kept {v : Value} {x : Option (List Call)} (h : RCp w P v x) (hf : Agree P w w1) (hP : ∀ b o, P b o → P' b o) : RCp w1 P' v x := RLp.mono (fun _ _ _ k => k.kept hf hP) h
theorem ResP.kept {b o : Nat} {r : Res} (h : ResP w P b o r) (hf : Agree P w w1) (hP : ∀ b o, P b o → P' b o) : ResP w1 P' b o r := by
  obtain ⟨⟨p0, p1, p2, p3⟩, h0, h1, h2, h3, h4⟩ := h
  exact ⟨⟨hP _ _ p0, hP _ _ p1, hP _ _ p2, hP _ _ p3⟩, hf _ _ p0 _ h0, hf _ _ p1 _ h1, hf _ _ p2 _ h2, hf _ _ p3 _ h3, h4⟩
theorem RRp.kept {v : Value} {x : Option (List Res)} (h : RRp w P v x) (hf : Agree P w w1) (hP : ∀ b o, P b o → P' b o) : RRp w1 P' v x := RLp.mono (fun _ _ _ k => k.kept hf hP) h

theorem lt_of_cell {b o : Nat} {v : Value} (h : w.cell? ⟨b, o, none⟩ = some v) : b < w.heap.size := World.block_lt_of_cell? w ⟨b, o, none⟩ h
theorem RBp.toB {v : Value} {x : Option (List UInt8)} (h : RBp w P v x) : RB w w.heap.size v x := RLp.toB (fun _ _ _ k => ⟨lt_of_cell k.2, k.2⟩) h
theorem CallP.toB {b o : Nat} {c : Call} (h : CallP w P b o c) : CallAt w w.heap.size b o c := by
  obtain ⟨v, -, h0, h1, h2, h3, h4⟩ := h
  exact ⟨v, h0, h1, h2, h3.toB, h4⟩
theorem RCp.toB {v : Value} {x : Option (List Call)} (h : RCp w P v x) : RC w w.heap.size v x := RLp.toB (fun _ _ _ k => ⟨by obtain ⟨v, -, h0, -⟩ := k; exact lt_of_cell h0, k.toB⟩) h
theorem RRp.toB {v : Value} {x : Option (List Res)} (h : RRp w P v x) : RR w w.heap.size v x := RLp.toB (fun _ _ _ k => ⟨lt_of_cell k.2.1, k.2⟩) h
theorem MsgP.toB {b o : Nat} {m : Msg} (h : MsgP w P b o m) : MsgAt w w.heap.size b o m := by
  obtain ⟨v3, v4, h0, h1, h2, h3, h4, h5, h6, h7⟩ := h
  exact ⟨v3, v4, h0, h1, h2, h3, h4, h5.toB, h6.toB, h7⟩

/-- what is read is there: it lies below the heap's end -/
theorem RBp.lt {v : Value} {x : Option (List UInt8)} (h : RBp w P v x) : RBp w (fun b o => P b o ∧ b < w.heap.size) v x := RLp.mono (fun _ _ _ k => ⟨⟨k.1, lt_of_cell k.2⟩, k.2⟩) h
theorem RCp.lt {v : Value} {x : Option (List Call)} (h : RCp w P v x) : RCp w (fun b o => P b o ∧ b < w.heap.size) v x := RLp.mono (fun _ _ _ k => by
  obtain ⟨v, ⟨p0, p1, p2⟩, h0, h1, h2, h3, h4⟩ := k
  exact ⟨v, ⟨⟨p0, lt_of_cell h0⟩, ⟨p1, lt_of_cell h1⟩, p2, lt_of_cell h2⟩, h0, h1, h2, h3.lt, h4⟩) h
theorem RRp.lt {v : Value} {x : Option (List Res)} (h : RRp w P v x) : RRp w (fun b o => P b o ∧ b < w.heap.size) v x := RLp.mono (fun _ _ _ k => by
  obtain ⟨⟨p0, p1, p2, p3⟩, h0⟩ := k
  have hl := lt_of_cell h0.1
  exact ⟨⟨⟨p0, hl⟩, ⟨p1, hl⟩, ⟨p2, hl⟩, p3, hl⟩, h0⟩) h

theorem Agree.of {row : Option Nat} (h : w.grownBy w1 row) (hne : ∀ b o, P b o → some b ≠ row) : Agree P w w1 := fun b o hp _ hv => h.cell hv (hne b o hp)
theorem Agree.quiet (h : w.grownBy w1 none) : Agree P w w1 := .of h (fun _ _ _ => by simp)
theorem Agree.set {g j : Nat} {u : Value} (hne : ¬ P g j) : Agree P w (w.setCell ⟨g, j, none⟩ u) := fun b o hp v hv => by
  rw [World.cell?_setCell_other w ⟨g, j, none⟩ ⟨b, o, none⟩ u (by rintro ⟨rfl, rfl⟩; exact hne hp)]
  exact hv
end

/-- what lies at n0 or above -/
def Above (n0 : Nat) (b _o : Nat) : Prop := n0 ≤ b
/-- what lies below -/
def Beneath (B : Nat) (b _o : Nat) : Prop := b < B
section
variable {B : Nat} {w : World}
theorem RB.toP {v : Value} {x : Option (List UInt8)} (h : RB w B v x) : RBp w (Beneath B) v x := by
  cases x with
  | none => exact h
  | some l =>
    obtain ⟨a, c, rfl, h1, h2, h3⟩ := h
    exact ⟨a, c, rfl, h1, h2, fun i m hm => ⟨(h3 i m hm).1, (h3 i m hm).2.1, (h3 i m hm).2.2⟩⟩
theorem CallAt.toP {b o : Nat} {c : Call} (h : CallAt w B b o c) (hb : b < B) : CallP w (Beneath B) b o c := by
  obtain ⟨v, h0, h1, h2, h3, h4⟩ := h
  exact ⟨v, ⟨hb, hb, hb⟩, h0, h1, h2, h3.toP, h4⟩
theorem RC.toP {v : Value} {x : Option (List Call)} (h : RC w B v x) : RCp w (Beneath B) v x := by
  cases x with
  | none => exact h
  | some l =>
    obtain ⟨a, c, rfl, h1, h2, h3⟩ := h
    exact ⟨a, c, rfl, h1, h2, fun i m hm => ⟨(h3 i m hm).1, (h3 i m hm).2.2.toP (h3 i m hm).2.1⟩⟩
theorem RR.toP {v : Value} {x : Option (List Res)} (h : RR w B v x) : RRp w (Beneath B) v x := by
  cases x with
  | none => exact h
  | some l =>
    obtain ⟨a, c, rfl, h1, h2, h3⟩ := h
    exact ⟨a, c, rfl, h1, h2, fun i m hm => ⟨(h3 i m hm).1, ⟨(h3 i m hm).2.1, (h3 i m hm).2.1, (h3 i m hm).2.1, (h3 i m hm).2.1⟩, (h3 i m hm).2.2⟩⟩
end
end Go.Proofs.Qxb6618675a.mem
