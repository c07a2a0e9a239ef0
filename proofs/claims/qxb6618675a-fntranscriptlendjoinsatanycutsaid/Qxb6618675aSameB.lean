import Derived.Test.Qxb6618675aSize
import Derived.Deep.RegionWith
import Derived.Deep.RegionLaw
namespace Go.Proofs.Qxb6618675a.walks
open Go.RowKit Go.Proofs.Qxb6618675a.mem

theorem gd (w : World) (n : Nat) : w.grownBy (w.drewN n) none := ⟨rfl, rfl, rfl, Nat.le_refl _, fun _ _ _ => rfl⟩

set_option maxHeartbeats 1000000 in
/-- zzb1SameBytes at two slices that read alike -/
theorem f20 (B B' : Nat) (x y : Value) (l : Option (List UInt8)) (w : World) (hx : RB w B x l) (hy : RB w B' y l) (hl : (l.getD []).length ≤ 1048576) :
    Calls Try.prog 20 #[x, y] w fun e w' => e = .returned (.bool true) ∧ ∃ n, w' = w.drewN n := by
  obtain ⟨a, n, c, rfl, hn, -, -, hnil, hz, hat⟩ := RL.form hx
  obtain ⟨a', n', c', rfl, hn', -, -, hnil', hz', hat'⟩ := RL.form hy
  clear hx hy
  obtain rfl : n = n' := by omega
  rw [hn] at hl
  have he := fun (w : World) (a : Option Addr) (n c : Nat) => Lib.run_eql_slice_nil (P := Try.prog) w 48 5 a n c 0 0 Try.underlying48
  have hc : ∀ i, i < n → ∃ (u : Int) (b o b' o' : Nat), a = some ⟨b, o, none⟩ ∧ a' = some ⟨b', o', none⟩ ∧ w.cell? ⟨b, o + i, none⟩ = some (.int .u8 u) ∧ w.cell? ⟨b', o' + i, none⟩ = some (.int .u8 u) := by
    intro i hi
    obtain ⟨m, b, o, hm, rfl, -, h1⟩ := hat i hi
    obtain ⟨m', b', o', hm', rfl, -, h1'⟩ := hat' i hi
    rw [hm] at hm'
    cases hm'
    exact ⟨_, b, o, b', o', rfl, rfl, by simpa [ByteAt] using h1, by simpa [ByteAt] using h1'⟩
  have hsame : (a = none ∧ a' = none) ∨ ∃ p q, a = some p ∧ a' = some q := by
    cases a with
    | none =>
      have := hnil'.1 (hnil.2 rfl)
      exact .inl ⟨rfl, this⟩
    | some p => cases a' with
      | none => have := hnil.1 (hnil'.2 rfl); cases this
      | some q => exact .inr ⟨p, q, rfl, rfl⟩
  clear hat hat' hnil hnil' hn hn'
  rcases hsame with ⟨rfl, rfl⟩ | ⟨p, q, rfl, rfl⟩
  · obtain ⟨rfl, rfl⟩ := hz rfl
    obtain ⟨-, rfl⟩ := hz' rfl
    clear hc hz hz'
    go_enter Try.func20, Try.ntmps20
    go_wp2
    refine wp_loop_rounds 1 ?_
    rw [rounds_succ]
    go_wp2
    go_ret
    exact ⟨rfl, 0, rfl⟩
  · clear hz hz'
    go_enter Try.func20, Try.ntmps20
    go_wp2
    go_loopw [5] (fun i wr => ∃ k q : Nat, k ≤ n ∧ i = .int .i64 k ∧ wr = w.drewN q) (fun i _ => n - (intOf i).toNat)
    case atStart => exact ⟨0, 0, Nat.zero_le _, rfl, rfl⟩
    case round =>
      obtain ⟨k, s, hk, rfl, rfl⟩ := hrel
      by_cases hlt : k < n
      · obtain ⟨u, b, o, b', o', h0, h0', h1, h2⟩ := hc k hlt
        cases h0
        cases h0'
        clear hc
        go_wp2
        go_quiet (fail)
        go_wp2
        go_roundw
        case rel => exact ⟨k + 1, _, by omega, by go_num, rfl⟩
        case measure => simp [intOf]; omega
      · go_wp2
        go_ret
        exact ⟨rfl, _, rfl⟩
end Go.Proofs.Qxb6618675a.walks
