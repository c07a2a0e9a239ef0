import Derived.Test.Qxb6618666aKeys
namespace Go.Proofs.Qxb6618666a.walks
open Go.RowKit Go.Proofs.Qxb6618666a.mem

def headBytes (key : ByteArray) (n : Nat) (del : Bool) : List UInt8 :=
  Lib.uvarint key.size ++ key.data.toList ++ [if del then 1 else 0] ++ (if del then [] else Lib.uvarint n)

theorem box_cells (w : World) (c0 c1 c2 : Value) (t : TypeId) :
    (w.alloc (.cells #[c0, c1, c2] t)).cell? ⟨w.heap.size, 0, none⟩ = some c0 ∧ (w.alloc (.cells #[c0, c1, c2] t)).cell? ⟨w.heap.size, 1, none⟩ = some c1 ∧
    (w.alloc (.cells #[c0, c1, c2] t)).cell? ⟨w.heap.size, 2, none⟩ = some c2 := by
  refine ⟨?_, ?_, ?_⟩ <;> simp

/-- a block laid before the append still reads as it did -/
theorem box_kept {w W w1 : World} {B : Nat} {v v1 : Value} {l : List UInt8} {j : Nat} {u : Value} (ho : Own w B v l) (hc : W.cell? ⟨w.heap.size, j, none⟩ = some u) (hg : Grew W w1 v v1) :
    w1.cell? ⟨w.heap.size, j, none⟩ = some u :=
  hg.grown.cell hc (fun e => by have := (ho.lt w.heap.size e.symm).2; omega)

set_option maxHeartbeats 1000000 in
set_option maxRecDepth 10000 in
/-- appendWriteHead -/
theorem f32 (B : Nat) (v : Value) (l : List UInt8) (key : ByteArray) (vx : Value) (m : List UInt8) (del : Bool) (w : World) (h : Own w B v l) (hB : B ≤ w.heap.size) (hl : l.length ≤ 268435456)
    (hk : key.size ≤ 1048576) (hr : Rd w vx m) (hm : m.length ≤ 1048576) (hap : Apart w vx v) :
    Calls Try.prog 32 #[v, .agg #[.string key, vx, .bool del]] w fun e w' => ∃ v', e = .returned v' ∧ Own w' B v' (l ++ headBytes key m.length del) ∧ Grew w w' v v' := by
  obtain ⟨ax, cx, rfl, -, -, -, -⟩ := hr
  obtain ⟨b0, b1, b2⟩ := box_cells w (.string key) (.slice ax m.length cx) (.bool del) 107
  have hW := fun (q : Nat) => h.quiet (grownBy_drewN (World.grownBy_alloc w (.cells #[.string key, .slice ax m.length cx, .bool del] 107) none) q)
  have hS : w.heap.size ≤ (w.alloc (.cells #[.string key, .slice ax m.length cx, .bool del] 107)).heap.size := by simp
  have hu := uv_len key.size hk
  have hum := uv_len m.length hm
  cases del
  · go_enter Try.func32, Try.ntmps32
    go_wp2
    go_region_law (first
      | (go_simp; go_at_call 34; refine (f34 B v l key _ (by exact hW 1) (by simp; omega) (by omega) hk).mono ?_; rintro e w1 ⟨v1, rfl, ho1, hg1⟩; have k0 := box_kept h b0 (.after (grownBy_drew (grownBy_refl _ _)) hg1); have k1 := box_kept h b1 (.after (grownBy_drew (grownBy_refl _ _)) hg1); have k2 := box_kept h b2 (.after (grownBy_drew (grownBy_refl _ _)) hg1); have hsz := hg1.grown.size)
      | (go_simp; go_at_call 33; refine (f33 B v1 _ _ _ ho1 (by simp at hsz; omega) (by simp; omega)).mono ?_; rintro e w2 ⟨v2, rfl, ho2, hg2⟩))
    all_goals
      have hg12 := Grew.after (grownBy_drew (grownBy_refl _ _)) (hg1.trans hg2)
      have j1 := box_kept h b1 hg12
      have j2 := box_kept h b2 hg12
      have hsz2 := hg12.grown.size
      clear k0 k1 k2 hW
      go_wp2_with fail
      refine (f31 B v2 _ m.length _ ho2 (by simp at hsz2; omega) (by simp; omega) (by omega)).mono ?_
      rintro e w3 ⟨v3, rfl, ho3, hg3⟩
      go_wp2
      go_ret
      refine ⟨v3, rfl, ?_, .after (World.grownBy_alloc _ _ _) (hg12.trans hg3)⟩
      simpa [headBytes, List.append_assoc] using ho3
  · go_enter Try.func32, Try.ntmps32
    go_wp2
    go_region_law (first
      | (go_simp; go_at_call 34; refine (f34 B v l key _ (by exact hW 1) (by simp; omega) (by omega) hk).mono ?_; rintro e w1 ⟨v1, rfl, ho1, hg1⟩; have k0 := box_kept h b0 (.after (grownBy_drew (grownBy_refl _ _)) hg1); have k1 := box_kept h b1 (.after (grownBy_drew (grownBy_refl _ _)) hg1); have k2 := box_kept h b2 (.after (grownBy_drew (grownBy_refl _ _)) hg1); have hsz := hg1.grown.size)
      | (go_simp; go_at_call 33; refine (f33 B v1 _ _ _ ho1 (by simp at hsz; omega) (by simp; omega)).mono ?_; rintro e w2 ⟨v2, rfl, ho2, hg2⟩))
    all_goals
      have hg12 := Grew.after (grownBy_drew (grownBy_refl _ _)) (hg1.trans hg2)
      have j1 := box_kept h b1 hg12
      have j2 := box_kept h b2 hg12
      clear k0 k1 k2 hW
      go_wp2
      go_ret
      refine ⟨v2, rfl, ?_, .after (World.grownBy_alloc _ _ _) hg12⟩
      simpa [headBytes, List.append_assoc] using ho2

def writeBytes (key : ByteArray) (m : List UInt8) (del : Bool) : List UInt8 := headBytes key m.length del ++ (if del then [] else m)

theorem head_len (key : ByteArray) (n : Nat) (del : Bool) (hk : key.size ≤ 1048576) (hn : n ≤ 1048576) : (headBytes key n del).length ≤ key.size + 21 := by
  have h1 := uv_len key.size hk
  have h2 := uv_len n hn
  have h3 : key.data.toList.length = key.size := Array.length_toList
  cases del <;> simp only [headBytes, List.length_append, List.length_singleton, h3] <;> simp <;> omega

set_option maxHeartbeats 1000000 in
set_option maxRecDepth 10000 in
/-- AppendWrite -/
theorem f30 (B : Nat) (v : Value) (l : List UInt8) (key : ByteArray) (vx : Value) (m : List UInt8) (del : Bool) (w : World) (h : Own w B v l) (hB : B ≤ w.heap.size) (hl : l.length ≤ 134217728)
    (hk : key.size ≤ 1048576) (hr : Rd w vx m) (hm : m.length ≤ 1048576) (hap : Apart w vx v) :
    Calls Try.prog 30 #[v, .agg #[.string key, vx, .bool del]] w fun e w' => ∃ v', e = .returned v' ∧ Own w' B v' (l ++ writeBytes key m del) ∧ Grew w w' v v' := by
  have HR := hr
  obtain ⟨ax, cx, rfl, -, -, -, -⟩ := hr
  obtain ⟨b0, b1, b2⟩ := box_cells w (.string key) (.slice ax m.length cx) (.bool del) 107
  have ga := World.grownBy_alloc w (.cells #[.string key, .slice ax m.length cx, .bool del] 107) none
  have hlen := head_len key m.length del hk hm
  go_enter Try.func30, Try.ntmps30
  go_wp2_with fail
  refine (f32 B v l key _ m del _ (h.quiet ga) (by simp; omega) (by omega) hk (HR.quiet ga) hm (hap.quiet ga)).mono ?_
  rintro e w1 ⟨v1, rfl, ho1, hg1⟩
  have k0 := box_kept h b0 hg1
  have k1 := box_kept h b1 hg1
  have k2 := box_kept h b2 hg1
  have hr1 := (hap.quiet ga).rd (HR.quiet ga) hg1
  have hsz := hg1.grown.size
  cases del
  · go_wp2_with (at_builtin; refine wpList_app_rd _ rfl _ _ 30 rfl Try.underlying30 info5 B _ _ rfl ho1 _ m rfl hr1 ?c1 ?c2 ?_)
    case c1 => simp; omega
    case c2 => simp at hsz; omega
    intro v2 w2 ho2 hg2
    go_wp2
    go_ret
    refine ⟨v2, rfl, ?_, .after ga (hg1.trans hg2)⟩
    simpa [writeBytes, List.append_assoc] using ho2
  · go_wp2
    go_ret
    refine ⟨v1, rfl, ?_, .after ga hg1⟩
    simpa [writeBytes, List.append_assoc] using ho1

set_option maxHeartbeats 400000 in
/-- entry.of -/
theorem f29 (key : ByteArray) (ax : Option Addr) (nx cx : Nat) (ver : Int) (del : Bool) (w : World) :
    Calls Try.prog 29 #[.agg #[.slice ax nx cx, .int .u64 ver, .bool del], .string key] w fun e w' => e = .returned (.agg #[.string key, .slice ax nx cx, .bool del, .int .u64 ver]) ∧ w.grownBy w' none := by
  go_enter Try.func29, Try.ntmps29
  go_wp2
  exact bodyPost_ret (v := .agg #[.string key, .slice ax nx cx, .bool del, .int .u64 ver]) (by simp [results, Try.results29, go_sem]) rfl ⟨rfl, (World.grownBy_alloc _ _ _).trans (World.grownBy_alloc _ _ _)⟩

def entryBytes (key : ByteArray) (m : List UInt8) (ver : Nat) (del : Bool) : List UInt8 := Lib.uvarint ver ++ writeBytes key m del

theorem box_cells4 (w : World) (c0 c1 c2 c3 : Value) (t : TypeId) :
    (w.alloc (.cells #[c0, c1, c2, c3] t)).cell? ⟨w.heap.size, 0, none⟩ = some c0 ∧ (w.alloc (.cells #[c0, c1, c2, c3] t)).cell? ⟨w.heap.size, 1, none⟩ = some c1 ∧
    (w.alloc (.cells #[c0, c1, c2, c3] t)).cell? ⟨w.heap.size, 2, none⟩ = some c2 ∧ (w.alloc (.cells #[c0, c1, c2, c3] t)).cell? ⟨w.heap.size, 3, none⟩ = some c3 := by
  refine ⟨?_, ?_, ?_, ?_⟩ <;> simp

set_option maxHeartbeats 1000000 in
set_option maxRecDepth 10000 in
/-- AppendEntry -/
theorem f28 (B : Nat) (v : Value) (l : List UInt8) (key : ByteArray) (vx : Value) (m : List UInt8) (ver : Nat) (del : Bool) (w : World) (h : Own w B v l) (hB : B ≤ w.heap.size) (hl : l.length ≤ 67108864)
    (hk : key.size ≤ 1048576) (hr : Rd w vx m) (hm : m.length ≤ 1048576) (hap : Apart w vx v) (hv : ver < 18446744073709551616) :
    Calls Try.prog 28 #[v, .agg #[.string key, vx, .bool del, .int .u64 ver]] w fun e w' => ∃ v', e = .returned v' ∧ Own w' B v' (l ++ entryBytes key m ver del) ∧ Grew w w' v v' := by
  have HR := hr
  obtain ⟨ax, cx, rfl, -, -, -, -⟩ := hr
  obtain ⟨b0, b1, b2, b3⟩ := box_cells4 w (.string key) (.slice ax m.length cx) (.bool del) (.int .u64 ver) 109
  have ga := grownBy_drewN (World.grownBy_alloc w (.cells #[.string key, .slice ax m.length cx, .bool del, .int .u64 ver] 109) none) 1
  have hW := h.quiet ga
  have HRW := HR.quiet ga
  have hapW := hap.quiet ga
  have hlen := Lib.uvarint_length64 hv
  go_enter Try.func28, Try.ntmps28
  go_wp2
  go_region_law (first
    | (go_simp; go_at_call 31; refine (f31 B v l ver _ (by exact hW) (by simp; omega) (by omega) hv).mono ?_; rintro e w1 ⟨v1, rfl, ho1, hg1⟩; have hg1' := Grew.after (grownBy_drew (grownBy_refl _ _)) hg1; have k0 := box_kept h b0 hg1'; have k1 := box_kept h b1 hg1'; have k2 := box_kept h b2 hg1'; have hsz := hg1.grown.size; have hr1 := hapW.rd HRW hg1; have ha1 := hapW.grew hg1)
    | (go_simp; go_at_call 30; refine (f30 B v1 _ key _ m del _ ho1 (by simp at hsz; omega) (by simp; omega) hk hr1 hm ha1).mono ?_; rintro e w2 ⟨v2, rfl, ho2, hg2⟩))
  all_goals
    go_wp2
    go_ret
    refine ⟨v2, rfl, ?_, .after ga (hg1.trans hg2)⟩
    simpa [entryBytes, List.append_assoc] using ho2
end Go.Proofs.Qxb6618666a.walks
