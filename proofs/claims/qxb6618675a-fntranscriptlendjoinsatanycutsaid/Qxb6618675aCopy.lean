import Derived.Test.Qxb6618675aSize
import Derived.Test.Qxb6618675aMem2
import Derived.Deep.RegionWith
namespace Go.Proofs.Qxb6618675a.walks
open Go.RowKit Go.Proofs.Qxb6618675a.mem

theorem info5 : (Try.prog.info? 5).map (fun i => (i.zero, i.size, i.bytes)) = some (some (.int .u8 0), 1, 1) := by kernel_rfl
theorem info69 : (Try.prog.info? 69).map (fun i => (i.zero, i.size, i.bytes)) = some (some (.agg #[.string ByteArray.empty, .string ByteArray.empty, .slice none 0 0]), 3, 56) := by kernel_rfl
theorem info71 : (Try.prog.info? 71).map (fun i => (i.zero, i.size, i.bytes)) = some (some (.agg #[.string ByteArray.empty, .string ByteArray.empty, .string ByteArray.empty, .bool false]), 4, 56) := by kernel_rfl
theorem info35 : (Try.prog.info? 35).map (fun i => (i.zero, i.size, i.bytes)) = some (some (.agg #[.string ByteArray.empty, .string ByteArray.empty, .string ByteArray.empty, .slice none 0 0, .slice none 0 0]), 5, 96) := by kernel_rfl

set_option maxHeartbeats 1000000 in
set_option maxRecDepth 10000 in
/-- zzb1CloneBytes: a copy in a new row; nil stays nil -/
theorem f21 (B : Nat) (v : Value) (x : Option (List UInt8)) (w : World) (h : RB w B v x) (hl : (x.getD []).length ≤ 1048576) :
    Calls Try.prog 21 #[v] w fun e w' => ∃ v', e = .returned v' ∧ RBp w' (Above w.heap.size) v' x ∧ w.grownBy w' none := by
  cases x with
  | none =>
    cases h
    have he := fun (w : World) => Lib.run_eql_slice_nil (P := Try.prog) w 48 5 none 0 0 0 0 Try.underlying48
    go_enter Try.func21, Try.ntmps21
    go_wp2
    go_ret
    exact ⟨_, rfl, rfl, World.grownBy.refl _ _⟩
  | some l =>
    obtain ⟨a, c, rfl, h1, h2, h3⟩ := h
    simp only [Option.getD_some] at hl
    obtain ⟨i, hi, hz, hsize, hby⟩ := info_parts info5
    obtain ⟨n, hn⟩ : ∃ n, n = l.length := ⟨_, rfl⟩
    have hb1 : i.bytes * n ≤ 281474976710656 := by rw [hby]; omega
    have hb2 : n ≤ maxLen := by unfold maxLen; omega
    have hsrc : ∀ k, k < n → ∃ b o, a = ⟨b, o, none⟩ ∧ b < B ∧ w.cell? ⟨b, o + k, none⟩ = some (.int .u8 ((l.getD k 0).toNat : Int)) := by
      intro k hk
      have hk' : k < l.length := by omega
      obtain ⟨k1, k2, k3⟩ := h3 k l[k] (List.getElem?_eq_getElem hk')
      obtain ⟨b, o, sp⟩ := a
      cases k1
      refine ⟨b, o, rfl, k2, ?_⟩
      have e : l.getD k 0 = l[k] := by simp [List.getD_eq_getElem?_getD, List.getElem?_eq_getElem hk']
      rw [e]
      simpa [ByteAt] using k3
    have hdone : ∀ (W : World) (g : Nat), w.heap.size ≤ g → (∀ k, k < n → W.cell? ⟨g, k, none⟩ = some (.int .u8 ((l.getD k 0).toNat : Int))) → RBp W (Above w.heap.size) (.slice (some ⟨g, 0, none⟩) n n) (some l) := by
      intro W g hg hc
      refine ⟨⟨g, 0, none⟩, n, by rw [hn], by omega, hb2, fun k u hu => ?_⟩
      obtain ⟨hk', hu'⟩ := List.getElem?_eq_some_iff.1 hu
      refine ⟨rfl, hg, ?_⟩
      have e : l.getD k 0 = u := by simp [List.getD_eq_getElem?_getD, hu]
      have := hc k (by omega)
      rw [e] at this
      simpa using this
    rw [← hn] at hl ⊢
    clear h3 h1 h2 hn
    have he := fun (w : World) (a : Option Addr) (n c : Nat) => Lib.run_eql_slice_nil (P := Try.prog) w 48 5 a n c 0 0 Try.underlying48
    go_enter Try.func21, Try.ntmps21
    go_wp2_with (at_make; refine wpList_make_full _ rfl _ _ 48 rfl w.heap.size 5 i (.int .u8 0) 1 Try.underlying48 hi hz hsize _ _ _ _ n rfl rfl rfl rfl hb1 hb2 (Nat.le_refl _) ?_)
    intro w1 ho1 hg1
    go_wp2
    go_loopw [4] (fun t wr => ∃ (k : Nat) (xs : List Value), t = .int .i64 k ∧ k ≤ n ∧ wr.ownsRow w.heap.size 5 1 (.slice (some ⟨w.heap.size, 0, none⟩) n n) n xs ∧ w.grownBy wr none ∧ ∀ j, j < k → xs[j]? = some (.int .u8 ((l.getD j 0).toNat : Int))) (fun t _ => n - (intOf t).toNat)
    case atStart => exact ⟨0, _, rfl, Nat.zero_le _, ho1, hg1, fun j hj => by omega⟩
    case round =>
      obtain ⟨k, xs, rfl, hk, hown, hg, hxs⟩ := hrel
      by_cases hlt : k < n
      · obtain ⟨b, o, rfl, hb, hcell⟩ := hsrc k hlt
        have hcell := hg.cell hcell (by simp)
        have hlen : xs.length = n * 1 := hown.1
        have hcur : wr.cell? ⟨w.heap.size, k, none⟩ = some xs[k] := by rw [hown.cellAt k (by omega)]; exact List.getElem?_eq_getElem (by omega)
        have hfz := hown.frozenAt k
        obtain ⟨hown', hg'⟩ := hown.stored k (.int .u8 ((l.getD k 0).toNat : Int))
        obtain ⟨u, hu⟩ : ∃ u : Int, u = ((l.getD k 0).toNat : Int) := ⟨_, rfl⟩
        rw [← hu] at hcell hown' hg'
        obtain ⟨y, hy⟩ : ∃ y, y = xs[k]'(by omega) := ⟨_, rfl⟩
        rw [← hy] at hcur
        clear hy
        have hlast : ∀ j, j < k + 1 → (xs.set k (.int .u8 u))[j]? = some (.int .u8 ((l.getD j 0).toNat : Int)) := by
          intro j hj
          rw [List.getElem?_set]
          by_cases e : k = j
          · subst e; simp [hlen, hlt, hu]
          · rw [if_neg e]; exact hxs j (by omega)
        clear hsrc hdone hxs hu
        go_wp2
        go_roundw
        case rel => exact ⟨k + 1, _, by go_num, by omega, hown', gb_set hg (Nat.le_refl _) _, hlast⟩
        case measure => simp [intOf]; omega
      · obtain rfl : k = n := by omega
        have hfin := hdone wr w.heap.size (Nat.le_refl _) (fun j hj => by rw [hown.cellAt j (by omega)]; exact hxs j hj)
        clear hdone hsrc
        go_wp2
        go_ret
        exact ⟨_, rfl, hfin, hg⟩
end Go.Proofs.Qxb6618675a.walks
