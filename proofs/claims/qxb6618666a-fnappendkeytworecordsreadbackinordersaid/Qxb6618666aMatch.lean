import Derived.Test.Qxb6618666aRead
import Derived.Test.Qxb6618666aKeys3
namespace Go.Proofs.Qxb6618666a.walks
open Go.RowKit Go.Proofs.Qxb6618666a.mem

/-- zzReadUvarint, its numbers as plain variables -/
theorem f25i (g o n cap x : Nat) (L pre post : List UInt8) (w : World) (p r : Int) (hL : L = pre ++ Lib.uvarint x ++ post) (hn : L.length = n) (hp : p = (pre.length : Int)) (hr : r = (pre.length : Int) + ((Lib.uvarint x).length : Int)) (hx : x < 18446744073709551616) (hnm : n ≤ 1073741824)
    (hc : ∀ i, i < n → w.cell? ⟨g, o + i, none⟩ = some (.int .u8 ((L.getD i 0).toNat : Int))) :
    Calls Try.prog 25 #[.slice (some ⟨g, o, none⟩) n cap, .int .i64 p] w fun e w' => e = .returned (.tuple #[.int .u64 x, .int .i64 r, .bool true]) ∧ w' = w := by
  subst hp
  have := f25 g o n cap pre.length x L pre post w hL hn rfl hx hnm hc
  rw [Int.natCast_add, ← hr] at this
  exact this

theorem getD_right (A B : List UInt8) (i : Nat) : (A ++ B).getD (A.length + i) 0 = B.getD i 0 := by
  simp only [List.getD_eq_getElem?_getD]
  rw [List.getElem?_append_right (by omega)]
  congr 2
  omega
theorem getD_left (A B : List UInt8) (i : Nat) (h : i < A.length) : (A ++ B).getD i 0 = A.getD i 0 := by
  simp only [List.getD_eq_getElem?_getD]
  rw [List.getElem?_append_left h]
theorem getD_str (s : ByteArray) (k : Nat) (h : k < s.size) : s.data.toList.getD k 0 = s[k] := by
  have hk : k < s.data.toList.length := by rw [Array.length_toList]; exact h
  rw [List.getD_eq_getElem?_getD, List.getElem?_eq_getElem hk]
  rfl
theorem tuple2 {a a' : Int} (h : a = a') : Ending.returned (.tuple #[.int .i64 a, .bool true]) = .returned (.tuple #[.int .i64 a', .bool true]) := by rw [h]

set_option maxHeartbeats 2000000 in
set_option maxRecDepth 10000 in
/-- zzMatchRecord at a deletion -/
theorem f18_del (g o n cap : Nat) (L pre post : List UInt8) (key : ByteArray) (vx : Value) (ver : Nat) (w : World)
    (hL : L = pre ++ ([6] ++ (Lib.uvarint ver ++ (Lib.uvarint key.size ++ (key.data.toList ++ ([1] ++ post)))))) (hn : L.length = n) (hnm : n ≤ 1073741824) (hk : key.size ≤ 1048576) (hv : ver < 18446744073709551616)
    (hc : ∀ i, i < n → w.cell? ⟨g, o + i, none⟩ = some (.int .u8 ((L.getD i 0).toNat : Int))) (pos r : Int) (hpos : pos = (pre.length : Int)) (hr : r = ((n - post.length : Nat) : Int)) :
    Calls Try.prog 18 #[.slice (some ⟨g, o, none⟩) n cap, .int .i64 pos, .string key, vx, .int .u64 ver, .bool true] w fun e w' => e = .returned (.tuple #[.int .i64 r, .bool true]) ∧ ∃ q, w' = w.drewN q := by
  have hk1 := Lib.uvarint_length64 hv
  have hk2 := uv_len key.size hk
  have hdl : key.data.toList.length = key.size := Array.length_toList
  obtain ⟨p0, hp0⟩ : ∃ p0, p0 = pre.length := ⟨_, rfl⟩
  obtain ⟨p2, hp2⟩ : ∃ p2, p2 = p0 + 1 + (Lib.uvarint ver).length := ⟨_, rfl⟩
  obtain ⟨p3, hp3⟩ : ∃ p3, p3 = p2 + (Lib.uvarint key.size).length := ⟨_, rfl⟩
  have hN : n = p3 + key.size + 1 + post.length := by rw [← hn, hL]; simp [hdl]; omega
  have e6 : w.cell? ⟨g, o + p0, none⟩ = some (.int .u8 6) := by
    rw [hc p0 (by omega), hL, hp0]
    have := getD_right pre ([6] ++ (Lib.uvarint ver ++ (Lib.uvarint key.size ++ (key.data.toList ++ ([1] ++ post))))) 0
    rw [Nat.add_zero] at this
    rw [this]; rfl
  have L3 : L = (pre ++ [6] ++ Lib.uvarint ver ++ Lib.uvarint key.size) ++ (key.data.toList ++ ([1] ++ post)) := by rw [hL]; simp [List.append_assoc]
  have len3 : (pre ++ [6] ++ Lib.uvarint ver ++ Lib.uvarint key.size).length = p3 := by simp; omega
  have ek : ∀ i (h : i < key.size), w.cell? ⟨g, o + (p3 + i), none⟩ = some (.int .u8 ((key[i]'h).toNat : Int)) := by
    intro i h
    rw [hc (p3 + i) (by omega), L3, ← len3, getD_right, getD_left _ _ _ (by rw [hdl]; exact h), getD_str key i h]
  have ed : w.cell? ⟨g, o + (p3 + key.size), none⟩ = some (.int .u8 1) := by
    rw [hc (p3 + key.size) (by omega), L3, ← len3, getD_right, ← hdl]
    have := getD_right key.data.toList ([1] ++ post) 0
    rw [Nat.add_zero] at this
    rw [this]; rfl
  have c1 := fun cap => f25i g o n cap ver L (pre ++ [6]) (Lib.uvarint key.size ++ (key.data.toList ++ ([1] ++ post))) w ((p0 : Int) + 1) (p2 : Int) (by rw [hL]; simp [List.append_assoc]) hn (by simp; omega) (by simp; omega) hv hnm hc
  have c2 := fun cap => f25i g o n cap key.size L (pre ++ [6] ++ Lib.uvarint ver) (key.data.toList ++ ([1] ++ post)) w (p2 : Int) (p3 : Int) (by rw [hL]; simp [List.append_assoc]) hn (by simp; omega) (by simp; omega) (by omega) hnm hc
  have hfin : Hid (r = (p3 : Int) + (key.size : Int) + 1) := by show _ = _; omega
  have hpos' : pos = (p0 : Int) := by omega
  subst hpos'
  have b1 : p0 + 1 ≤ p2 := by omega
  have b2 : p2 ≤ p3 := by omega
  have b3 : p3 + key.size < n := by omega
  have C1 : Hid (∀ cap, Calls _ _ _ _ _) := c1
  have C2 : Hid (∀ cap, Calls _ _ _ _ _) := c2
  clear c1 c2 hc hL hn L3 len3 hN hp0 hp2 hp3 hr hdl hpos hk1 hk2 hv
  go_enter Try.func18, Try.ntmps18
  go_wp2_with fail
  refine (C1.out _).mono ?_
  rintro e w' ⟨rfl, rfl⟩
  go_wp2_with fail
  refine (C2.out _).mono ?_
  rintro e w' ⟨rfl, rfl⟩
  go_wp2_with fail
  go_loopw [17] (fun i wr => ∃ k q : Nat, k ≤ key.size ∧ i = .int .i64 k ∧ wr = w'.drewN q) (fun i _ => key.size - (intOf i).toNat)
  case atStart => exact ⟨0, 0, Nat.zero_le _, rfl, rfl⟩
  case round =>
    obtain ⟨k, q, hkk, rfl, rfl⟩ := hrel
    by_cases hlt : k < key.size
    · have hck := ek k hlt
      clear ek ed e6 C1 C2
      go_wp2
      go_quiet (fail)
      go_wp2
      go_roundw
      case rel => exact ⟨k + 1, _, by omega, by go_num, rfl⟩
      case measure => simp [intOf]; omega
    · clear ek e6 C1 C2
      go_wp2
      go_ret2
      exact ⟨tuple2 hfin.out.symm, _, rfl⟩

set_option maxHeartbeats 2000000 in
set_option maxRecDepth 10000 in
/-- zzMatchRecord at a value -/
theorem f18_val (g o n cap : Nat) (L pre post : List UInt8) (key : ByteArray) (vx : Value) (m : List UInt8) (ver : Nat) (w : World)
    (hL : L = pre ++ ([6] ++ (Lib.uvarint ver ++ (Lib.uvarint key.size ++ (key.data.toList ++ ([0] ++ (Lib.uvarint m.length ++ (m ++ post)))))))) (hn : L.length = n) (hnm : n ≤ 1073741824) (hk : key.size ≤ 1048576) (hrd : Rd w vx m) (hm : m.length ≤ 1048576) (hv : ver < 18446744073709551616)
    (hc : ∀ i, i < n → w.cell? ⟨g, o + i, none⟩ = some (.int .u8 ((L.getD i 0).toNat : Int))) (pos r : Int) (hpos : pos = (pre.length : Int)) (hr : r = ((n - post.length : Nat) : Int)) :
    Calls Try.prog 18 #[.slice (some ⟨g, o, none⟩) n cap, .int .i64 pos, .string key, vx, .int .u64 ver, .bool false] w fun e w' => e = .returned (.tuple #[.int .i64 r, .bool true]) ∧ ∃ q, w' = w.drewN q := by
  have hk1 := Lib.uvarint_length64 hv
  have hk2 := uv_len key.size hk
  have hk3 := uv_len m.length hm
  obtain ⟨ax, cx, rfl, -, -, -, hcv⟩ := hrd
  have hdl : key.data.toList.length = key.size := Array.length_toList
  obtain ⟨p0, hp0⟩ : ∃ p0, p0 = pre.length := ⟨_, rfl⟩
  obtain ⟨p2, hp2⟩ : ∃ p2, p2 = p0 + 1 + (Lib.uvarint ver).length := ⟨_, rfl⟩
  obtain ⟨p3, hp3⟩ : ∃ p3, p3 = p2 + (Lib.uvarint key.size).length := ⟨_, rfl⟩
  obtain ⟨p6, hp6⟩ : ∃ p6, p6 = p3 + key.size + 1 + (Lib.uvarint m.length).length := ⟨_, rfl⟩
  have hN : n = p6 + m.length + post.length := by rw [← hn, hL]; simp [hdl]; omega
  have e6 : w.cell? ⟨g, o + p0, none⟩ = some (.int .u8 6) := by
    rw [hc p0 (by omega), hL, hp0]
    have := getD_right pre ([6] ++ (Lib.uvarint ver ++ (Lib.uvarint key.size ++ (key.data.toList ++ ([0] ++ (Lib.uvarint m.length ++ (m ++ post))))))) 0
    rw [Nat.add_zero] at this
    rw [this]; rfl
  have L3 : L = (pre ++ [6] ++ Lib.uvarint ver ++ Lib.uvarint key.size) ++ (key.data.toList ++ ([0] ++ (Lib.uvarint m.length ++ (m ++ post)))) := by rw [hL]; simp [List.append_assoc]
  have len3 : (pre ++ [6] ++ Lib.uvarint ver ++ Lib.uvarint key.size).length = p3 := by simp; omega
  have ek : ∀ i (h : i < key.size), w.cell? ⟨g, o + (p3 + i), none⟩ = some (.int .u8 ((key[i]'h).toNat : Int)) := by
    intro i h
    rw [hc (p3 + i) (by omega), L3, ← len3, getD_right, getD_left _ _ _ (by rw [hdl]; exact h), getD_str key i h]
  have ed : w.cell? ⟨g, o + (p3 + key.size), none⟩ = some (.int .u8 0) := by
    rw [hc (p3 + key.size) (by omega), L3, ← len3, getD_right, ← hdl]
    have := getD_right key.data.toList ([0] ++ (Lib.uvarint m.length ++ (m ++ post))) 0
    rw [Nat.add_zero] at this
    rw [this]; rfl
  have c1 := fun cap => f25i g o n cap ver L (pre ++ [6]) (Lib.uvarint key.size ++ (key.data.toList ++ ([0] ++ (Lib.uvarint m.length ++ (m ++ post))))) w ((p0 : Int) + 1) (p2 : Int) (by rw [hL]; simp [List.append_assoc]) hn (by simp; omega) (by simp; omega) hv hnm hc
  have c2 := fun cap => f25i g o n cap key.size L (pre ++ [6] ++ Lib.uvarint ver) (key.data.toList ++ ([0] ++ (Lib.uvarint m.length ++ (m ++ post)))) w (p2 : Int) (p3 : Int) (by rw [hL]; simp [List.append_assoc]) hn (by simp; omega) (by simp; omega) (by omega) hnm hc
  have c3 := fun cap q => f25i g o n cap m.length L (pre ++ [6] ++ Lib.uvarint ver ++ Lib.uvarint key.size ++ key.data.toList ++ [0]) (m ++ post) (w.drewN q) ((p3 : Int) + (key.size : Int) + 1) (p6 : Int) (by rw [hL]; simp [List.append_assoc]) hn (by simp [hdl]; omega) (by simp [hdl]; omega) (by omega) hnm hc
  have L6 : L = (pre ++ [6] ++ Lib.uvarint ver ++ Lib.uvarint key.size ++ key.data.toList ++ [0] ++ Lib.uvarint m.length) ++ (m ++ post) := by rw [hL]; simp [List.append_assoc]
  have len6 : (pre ++ [6] ++ Lib.uvarint ver ++ Lib.uvarint key.size ++ key.data.toList ++ [0] ++ Lib.uvarint m.length).length = p6 := by simp [hdl]; omega
  have ev : ∀ i, i < m.length → w.cell? ⟨g, o + (p6 + i), none⟩ = some (.int .u8 ((m.getD i 0).toNat : Int)) := by
    intro i h
    rw [hc (p6 + i) (by omega), L6, ← len6, getD_right, getD_left _ _ _ h]
  have hfin : Hid (r = (p6 : Int) + (m.length : Int)) := by show _ = _; omega
  have hpos' : pos = (p0 : Int) := by omega
  subst hpos'
  have b1 : p0 + 1 ≤ p2 := by omega
  have b2 : p2 ≤ p3 := by omega
  have b3 : p3 + key.size < n := by omega
  have b4 : p3 + key.size + 1 ≤ p6 := by omega
  have b5 : p6 + m.length ≤ n := by omega
  have C1 : Hid (∀ cap, Calls _ _ _ _ _) := c1
  have C2 : Hid (∀ cap, Calls _ _ _ _ _) := c2
  have C3 : Hid (∀ cap q, Calls _ _ _ _ _) := c3
  clear c1 c2 c3 hc L6 len6 hp6 hk3 hL hn L3 len3 hN hp0 hp2 hp3 hr hdl hpos hk1 hk2 hv
  go_enter Try.func18, Try.ntmps18
  go_wp2_with fail
  refine (C1.out _).mono ?_
  rintro e w' ⟨rfl, rfl⟩
  go_wp2_with fail
  refine (C2.out _).mono ?_
  rintro e w' ⟨rfl, rfl⟩
  go_wp2_with fail
  go_loopw [17] (fun i wr => ∃ k q : Nat, k ≤ key.size ∧ i = .int .i64 k ∧ wr = w'.drewN q) (fun i _ => key.size - (intOf i).toNat)
  case atStart => exact ⟨0, 0, Nat.zero_le _, rfl, rfl⟩
  case round =>
    obtain ⟨k, q, hkk, rfl, rfl⟩ := hrel
    by_cases hlt : k < key.size
    · have hck := ek k hlt
      clear ek ed e6 C1 C2 C3 ev hcv
      go_wp2
      go_quiet (fail)
      go_wp2
      go_roundw
      case rel => exact ⟨k + 1, _, by omega, by go_num, rfl⟩
      case measure => simp [intOf]; omega
    · clear ek e6 C1 C2
      go_wp2_with fail
      refine (C3.out _ _).mono ?_
      rintro e w2 ⟨rfl, rfl⟩
      clear C3 ed
      obtain ⟨W, hW⟩ : ∃ W, Hid (W = w'.drewN q) := ⟨_, rfl⟩
      have ev' : ∀ i, i < m.length → W.cell? ⟨g, o + (p6 + i), none⟩ = some (.int .u8 ((m.getD i 0).toNat : Int)) := by intro i h; rw [hW.out]; exact ev i h
      have hcv' : m ≠ [] → ∃ g o, ax = some ⟨g, o, none⟩ ∧ ∀ i, i < m.length → W.cell? ⟨g, o + i, none⟩ = some (.int .u8 ((m.getD i 0).toNat : Int)) := by
        intro h
        obtain ⟨g', o', e, h2⟩ := hcv h
        exact ⟨g', o', e, fun i hi => by rw [hW.out]; exact h2 i hi⟩
      rw [← hW.out]
      go_wp2_with fail
      go_loopw [19] (fun i wr => ∃ k q : Nat, k ≤ m.length ∧ i = .int .i64 k ∧ wr = W.drewN q) (fun i _ => m.length - (intOf i).toNat)
      case atStart => exact ⟨0, 0, Nat.zero_le _, rfl, rfl⟩
      case round =>
        obtain ⟨k2, q2, hkk2, rfl, rfl⟩ := hrel
        by_cases hlt2 : k2 < m.length
        · obtain ⟨g', o', rfl, hcc⟩ := hcv' (by rintro rfl; simp at hlt2)
          have h1 := ev' k2 hlt2
          have h2 := hcc k2 hlt2
          clear ev ev' hcc hcv hcv'
          go_wp2
          go_quiet (fail)
          go_wp2
          go_roundw
          case rel => exact ⟨k2 + 1, _, by omega, by go_num, rfl⟩
          case measure => simp [intOf]; omega
        · clear ev ev' hcv hcv'
          go_wp2
          go_ret2
          refine ⟨tuple2 ?_, q + q2, ?_⟩
          · rw [hfin.out]
          · rw [hW.out, World.drewN_drewN]

/-- zzMatchRecord: a record that stands at pos is read to its end -/
theorem f18 (v : Value) (L pre post : List UInt8) (key : ByteArray) (vx : Value) (m : List UInt8) (ver : Nat) (del : Bool) (w : World) (h : Rd w v L)
    (hL : L = pre ++ recBytes key m ver del ++ post) (hnm : L.length ≤ 1073741824) (hk : key.size ≤ 1048576) (hrd : Rd w vx m) (hm : m.length ≤ 1048576) (hv : ver < 18446744073709551616)
    (pos r : Int) (hpos : pos = (pre.length : Int)) (hr : r = ((pre ++ recBytes key m ver del).length : Int)) :
    Calls Try.prog 18 #[v, .int .i64 pos, .string key, vx, .int .u64 ver, .bool del] w fun e w' => e = .returned (.tuple #[.int .i64 r, .bool true]) ∧ ∃ q, w' = w.drewN q := by
  have hl : L.length = (pre ++ recBytes key m ver del).length + post.length := by rw [hL, List.length_append]
  rcases h.parts with ⟨h0, _⟩ | ⟨g, o, cap, rfl, _, _, _, hc⟩
  · exfalso
    have := congrArg List.length (hL.symm.trans h0)
    simp [recBytes] at this
  · cases del
    · exact f18_val g o L.length cap L pre post key vx m ver w (by rw [hL]; simp [recBytes, entryBytes, writeBytes, headBytes, List.append_assoc]) rfl hnm hk hrd hm hv hc pos r hpos (by rw [hr]; omega)
    · exact f18_del g o L.length cap L pre post key vx ver w (by rw [hL]; simp [recBytes, entryBytes, writeBytes, headBytes, List.append_assoc]) rfl hnm hk hv hc pos r hpos (by rw [hr]; omega)

theorem rec_len (key : ByteArray) (m : List UInt8) (ver : Nat) (del : Bool) (hk : key.size ≤ 1048576) (hm : m.length ≤ 1048576) (hv : ver < 18446744073709551616) :
    0 < (recBytes key m ver del).length ∧ (recBytes key m ver del).length ≤ 2097252 := by
  have h1 := head_len key m.length del hk hm
  have h2 := Lib.uvarint_length64 hv
  cases del <;> simp only [recBytes, entryBytes, writeBytes, List.length_append, List.length_singleton] <;> simp <;> omega
end Go.Proofs.Qxb6618666a.walks
