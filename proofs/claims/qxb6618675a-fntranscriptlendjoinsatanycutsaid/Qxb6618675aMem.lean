/-
  MESSAGES IN MEMORY: no dump. What a slice of messages reads as ('RM w B v x': every block that is read lies below B), and how the reading is kept.
-/
import Derived.WalkKit
import Derived.Below
import Derived.Maps.Range
import Derived.Maps.AppendAt
import Derived.Laws.OwnMore
import Derived.Deep.DeepAppendRoom
import Derived.OwnWalk
import Derived.OpenShut
import Derived.Deep.QuietTactic
import Derived.BigQuiet
namespace Go.Proofs.Qxb6618675a.mem
open Go.RowKit

structure Call where
  id : ByteArray
  name : ByteArray
  args : Option (List UInt8)
structure Res where
  cid : ByteArray
  name : ByteArray
  content : ByteArray
  err : Bool
structure Msg where
  role : ByteArray
  text : ByteArray
  refusal : ByteArray
  calls : Option (List Call)
  res : Option (List Res)

/-- the frame: what lies below B has not turned -/
structure Fr (B : Nat) (w w1 : World) : Prop where
  os : w1.os = w.os
  tape : w1.tape = w.tape
  output : w1.output = w.output
  size : w.heap.size ≤ w1.heap.size
  block : ∀ k, k < B → w1.heap[k]? = w.heap[k]?
theorem Fr.refl (B : Nat) (w : World) : Fr B w w := ⟨rfl, rfl, rfl, Nat.le_refl _, fun _ _ => rfl⟩
theorem Fr.trans {B : Nat} {w w1 w2 : World} (h : Fr B w w1) (k : Fr B w1 w2) : Fr B w w2 :=
  ⟨k.os.trans h.os, k.tape.trans h.tape, k.output.trans h.output, Nat.le_trans h.size k.size, fun j hj => (k.block j hj).trans (h.block j hj)⟩
theorem Fr.of {B : Nat} {w w1 : World} {row : Option Nat} (h : w.grownBy w1 row) (hB : B ≤ w.heap.size) (hrow : ∀ k, row = some k → B ≤ k) : Fr B w w1 :=
  ⟨h.os, h.tape, h.output, h.size, fun j hj => h.block j (by omega) (fun e => by have := hrow j e.symm; omega)⟩
theorem Fr.quiet {B : Nat} {w w1 : World} (h : w.grownBy w1 none) (hB : B ≤ w.heap.size) : Fr B w w1 := .of h hB (fun _ e => by cases e)
theorem Fr.grown {B : Nat} {w w1 w2 : World} (h : w.grownBy w1 none) (hB : w.heap.size ≤ B) (k : Fr B w1 w2) : w.grownBy w2 none :=
  ⟨k.os.trans h.os, k.tape.trans h.tape, k.output.trans h.output, Nat.le_trans h.size k.size, fun j hj _ => (k.block j (by omega)).trans (h.block j hj (by simp))⟩
theorem Fr.base {B B' : Nat} {w w1 : World} (h : Fr B w w1) (hB : B' ≤ B) : Fr B' w w1 := ⟨h.os, h.tape, h.output, h.size, fun j hj => h.block j (by omega)⟩
theorem Fr.drew {B : Nat} {w w1 : World} (h : Fr B w w1) : Fr B w w1.drew := ⟨h.os, h.tape, h.output, h.size, h.block⟩
theorem Fr.drewN {B : Nat} {w w1 : World} (h : Fr B w w1) (n : Nat) : Fr B w (w1.drewN n) := ⟨h.os, h.tape, h.output, h.size, h.block⟩
theorem Fr.cell {B : Nat} {w w1 : World} (h : Fr B w w1) {a : Addr} (ha : a.block < B) : w1.cell? a = w.cell? a := World.cell?_of_block (h.block _ ha)
theorem Fr.set {B : Nat} (w : World) {a : Addr} (ha : B ≤ a.block) (v : Value) : Fr B w (w.setCell a v) :=
  ⟨rfl, rfl, rfl, by simp, fun k hk => heap_setCell_other w a k v (by omega)⟩
theorem gb_set {w w1 : World} (h : w.grownBy w1 none) {a : Addr} (ha : w.heap.size ≤ a.block) (v : Value) : w.grownBy (w1.setCell a v) none :=
  Fr.grown h (Nat.le_refl _) (Fr.set w1 ha v)

/-- a list of elements of sz cells each -/
def RL {α : Type} (At : Nat → Nat → α → Prop) (sz B : Nat) (v : Value) : Option (List α) → Prop
  | none => v = .slice none 0 0
  | some l => ∃ a c, v = .slice (some a) l.length c ∧ l.length ≤ c ∧ c ≤ maxLen ∧ ∀ i m, l[i]? = some m → a.spot = none ∧ a.block < B ∧ At a.block (a.off + i * sz) m

theorem RL.mono {α : Type} {At At' : Nat → Nat → α → Prop} {sz B B' : Nat} {v : Value} {x : Option (List α)} (hB : B ≤ B') (h : ∀ b o m, b < B → At b o m → At' b o m) (hr : RL At sz B v x) : RL At' sz B' v x := by
  cases x with
  | none => exact hr
  | some l =>
    obtain ⟨a, c, rfl, h1, h2, h3⟩ := hr
    exact ⟨a, c, rfl, h1, h2, fun i m hm => by
      obtain ⟨k1, k2, k3⟩ := h3 i m hm
      exact ⟨k1, by omega, h _ _ _ k2 k3⟩⟩

/-- nil or not, in one form -/
theorem RL.form {α : Type} {At : Nat → Nat → α → Prop} {sz B : Nat} {v : Value} {x : Option (List α)} (h : RL At sz B v x) :
    ∃ a n c, v = .slice a n c ∧ (x.getD []).length = n ∧ n ≤ c ∧ c ≤ 9223372036854775807 ∧ (x = none ↔ a = none) ∧ (a = none → n = 0 ∧ c = 0) ∧
      ∀ i, i < n → ∃ m b o, (x.getD [])[i]? = some m ∧ a = some ⟨b, o, none⟩ ∧ b < B ∧ At b (o + i * sz) m := by
  cases x with
  | none =>
    cases h
    exact ⟨none, 0, 0, rfl, rfl, Nat.le_refl _, Nat.zero_le _, by simp, fun _ => ⟨rfl, rfl⟩, fun i hi => by omega⟩
  | some l =>
    obtain ⟨a, c, rfl, h1, h2, h3⟩ := h
    refine ⟨some a, l.length, c, rfl, rfl, h1, h2, by simp, fun h => by (cases h), fun i hi => ?_⟩
    have hm : l[i]? = some l[i] := List.getElem?_eq_getElem hi
    obtain ⟨k1, k2, k3⟩ := h3 i _ hm
    obtain ⟨b, o, sp⟩ := a
    cases k1
    exact ⟨l[i], b, o, hm, rfl, k2, k3⟩

def ByteAt (w : World) (b o : Nat) (u : UInt8) : Prop := w.cell? ⟨b, o, none⟩ = some (.int .u8 (u.toNat : Int))
def RB (w : World) (B : Nat) (v : Value) (x : Option (List UInt8)) : Prop := RL (ByteAt w) 1 B v x
def CallAt (w : World) (B b o : Nat) (c : Call) : Prop :=
  ∃ v, w.cell? ⟨b, o, none⟩ = some (.string c.id) ∧ w.cell? ⟨b, o + 1, none⟩ = some (.string c.name) ∧ w.cell? ⟨b, o + 2, none⟩ = some v ∧ RB w B v c.args ∧ c.id.size ≤ maxLen ∧ c.name.size ≤ maxLen
def RC (w : World) (B : Nat) (v : Value) (x : Option (List Call)) : Prop := RL (CallAt w B) 3 B v x
def ResAt (w : World) (b o : Nat) (r : Res) : Prop :=
  w.cell? ⟨b, o, none⟩ = some (.string r.cid) ∧ w.cell? ⟨b, o + 1, none⟩ = some (.string r.name) ∧ w.cell? ⟨b, o + 2, none⟩ = some (.string r.content) ∧ w.cell? ⟨b, o + 3, none⟩ = some (.bool r.err) ∧
    r.cid.size ≤ maxLen ∧ r.name.size ≤ maxLen ∧ r.content.size ≤ maxLen
def RR (w : World) (B : Nat) (v : Value) (x : Option (List Res)) : Prop := RL (ResAt w) 4 B v x
def MsgAt (w : World) (B b o : Nat) (m : Msg) : Prop :=
  ∃ v3 v4, w.cell? ⟨b, o, none⟩ = some (.string m.role) ∧ w.cell? ⟨b, o + 1, none⟩ = some (.string m.text) ∧ w.cell? ⟨b, o + 2, none⟩ = some (.string m.refusal) ∧
    w.cell? ⟨b, o + 3, none⟩ = some v3 ∧ w.cell? ⟨b, o + 4, none⟩ = some v4 ∧ RC w B v3 m.calls ∧ RR w B v4 m.res ∧ m.role.size ≤ maxLen ∧ m.text.size ≤ maxLen ∧ m.refusal.size ≤ maxLen
def RM (w : World) (B : Nat) (v : Value) (x : Option (List Msg)) : Prop := RL (MsgAt w B) 5 B v x

section
variable {B B' : Nat} {w w1 : World}
theorem ByteAt.kept {b o : Nat} {u : UInt8} (h : ByteAt w b o u) (hf : Fr B w w1) (hb : b < B) : ByteAt w1 b o u := by
  unfold ByteAt at *
  rw [hf.cell (a := ⟨b, o, none⟩) hb]
  exact h
theorem RB.kept {v : Value} {x : Option (List UInt8)} (h : RB w B v x) (hf : Fr B w w1) (hB : B ≤ B') : RB w1 B' v x := RL.mono hB (fun _ _ _ hb k => k.kept hf hb) h
theorem CallAt.kept {b o : Nat} {c : Call} (h : CallAt w B b o c) (hf : Fr B w w1) (hb : b < B) (hB : B ≤ B') : CallAt w1 B' b o c := by
  obtain ⟨v, h0, h1, h2, h3, h4⟩ := h
  refine ⟨v, ?_, ?_, ?_, h3.kept hf hB, h4⟩
  · rw [hf.cell (a := ⟨b, o, none⟩) hb, h0]
  · rw [hf.cell (a := ⟨b, o + 1, none⟩) hb, h1]
  · rw [hf.cell (a := ⟨b, o + 2, none⟩) hb, h2]
theorem RC.kept {v : Value} {x : Option (List Call)} (h : RC w B v x) (hf : Fr B w w1) (hB : B ≤ B') : RC w1 B' v x := RL.mono hB (fun _ _ _ hb k => k.kept hf hb hB) h
theorem ResAt.kept {b o : Nat} {r : Res} (h : ResAt w b o r) (hf : Fr B w w1) (hb : b < B) : ResAt w1 b o r := by
  obtain ⟨h0, h1, h2, h3, h4⟩ := h
  refine ⟨?_, ?_, ?_, ?_, h4⟩
  · rw [hf.cell (a := ⟨b, o, none⟩) hb, h0]
  · rw [hf.cell (a := ⟨b, o + 1, none⟩) hb, h1]
  · rw [hf.cell (a := ⟨b, o + 2, none⟩) hb, h2]
  · rw [hf.cell (a := ⟨b, o + 3, none⟩) hb, h3]
theorem RR.kept {v : Value} {x : Option (List Res)} (h : RR w B v x) (hf : Fr B w w1) (hB : B ≤ B') : RR w1 B' v x := RL.mono hB (fun _ _ _ hb k => k.kept hf hb) h
theorem MsgAt.kept {b o : Nat} {m : Msg} (h : MsgAt w B b o m) (hf : Fr B w w1) (hb : b < B) (hB : B ≤ B') : MsgAt w1 B' b o m := by
  obtain ⟨v3, v4, h0, h1, h2, h3, h4, h5, h6, h7⟩ := h
  refine ⟨v3, v4, ?_, ?_, ?_, ?_, ?_, h5.kept hf hB, h6.kept hf hB, h7⟩
  · rw [hf.cell (a := ⟨b, o, none⟩) hb, h0]
  · rw [hf.cell (a := ⟨b, o + 1, none⟩) hb, h1]
  · rw [hf.cell (a := ⟨b, o + 2, none⟩) hb, h2]
  · rw [hf.cell (a := ⟨b, o + 3, none⟩) hb, h3]
  · rw [hf.cell (a := ⟨b, o + 4, none⟩) hb, h4]
theorem RM.kept {v : Value} {x : Option (List Msg)} (h : RM w B v x) (hf : Fr B w w1) (hB : B ≤ B') : RM w1 B' v x := RL.mono hB (fun _ _ _ hb k => k.kept hf hb hB) h
end

/-! ### how much -/
def Call.bulk (c : Call) : Nat := (c.args.getD []).length
def callsOf (m : Msg) : List Call := m.calls.getD []
def resOf (m : Msg) : List Res := m.res.getD []
def cSum (l : List Call) : Nat := (l.map Call.bulk).sum
/-- calls, results, argument bytes -/
def nC (l : List Msg) : Nat := (l.map fun m => (callsOf m).length).sum
def nR (l : List Msg) : Nat := (l.map fun m => (resOf m).length).sum
def nA (l : List Msg) : Nat := (l.map fun m => cSum (callsOf m)).sum
def bulk (l : List Msg) : Nat := l.length + nC l + nR l + nA l

theorem sum_take {α : Type} (f : α → Nat) (l : List α) (i : Nat) {m : α} (h : l[i]? = some m) : ((l.take (i + 1)).map f).sum = ((l.take i).map f).sum + f m := by
  rw [List.take_add_one, h]
  simp
theorem sum_drop {α : Type} (f : α → Nat) (l : List α) (i : Nat) {m : α} (h : l[i]? = some m) : ((l.drop i).map f).sum = f m + ((l.drop (i + 1)).map f).sum := by
  obtain ⟨hi, rfl⟩ := List.getElem?_eq_some_iff.1 h
  rw [List.drop_eq_getElem_cons hi, List.map_cons, List.sum_cons]
theorem sum_split {α : Type} (f : α → Nat) (l : List α) (i : Nat) : (l.map f).sum = ((l.take i).map f).sum + ((l.drop i).map f).sum := by
  conv => lhs; rw [← List.take_append_drop i l]
  rw [List.map_append, List.sum_append]
theorem sum_sub {α : Type} (f : α → Nat) (l : List α) (i j : Nat) : (((l.drop i).take j).map f).sum ≤ (l.map f).sum := by
  have h1 := sum_split f l i
  have h2 := sum_split f (l.drop i) j
  omega
theorem bulk_sub (l : List Msg) (i j : Nat) : bulk ((l.drop i).take j) ≤ bulk l := by
  have h1 := sum_sub (fun m => (callsOf m).length) l i j
  have h2 := sum_sub (fun m => (resOf m).length) l i j
  have h3 := sum_sub (fun m => cSum (callsOf m)) l i j
  have h4 : ((l.drop i).take j).length ≤ l.length := by simp; omega
  unfold bulk nC nR nA
  omega
end Go.Proofs.Qxb6618675a.mem
