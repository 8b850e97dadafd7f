import Derived.Test.Qxb6612813aModsUnder
import Derived.Laws.BytesArg
namespace Go.Proofs.Qxb6612813aMods
open Go.RowKit

/-- 'string(next)', next the one new cell. -/
theorem conv_one (w : World) (ch : Int) (u : UInt8) (hu : UInt8.ofNat ch.toNat = u) :
    (convert 22 9 (.slice (some ⟨w.heap.size, 0, none⟩) 1 1)).run Trym.prog (w.alloc (.cells #[.int .u8 ch] 5)) = .ok (.string ⟨#[u]⟩) (w.alloc (.cells #[.int .u8 ch] 5)) := by
  subst hu
  refine run_convert_bytes_arg (P := Trym.prog) (w.alloc (.cells #[.int .u8 ch] 5)) 22 5 Trym.underlying22 Trym.underlying5 w.heap.size 0 1 1 [ch] rfl (fun i hi => ?_) 9 Trym.underlying9
  obtain rfl : i = 0 := by omega
  simp [go_sem]

/-- The lock on 'root', asked for root, one byte u, rest. -/
theorem ext_flat (b : Nat) (root rest : ByteArray) (u : UInt8) (w : World) (h1 : w.cell? ⟨b, 1, none⟩ = some (.string root)) (h2 : w.cell? ⟨b, 2, none⟩ = some (.bool false)) :
    Calls Trym.prog 8 #[.pointer (some ⟨b, 0, none⟩), .string (root ++ ⟨#[u]⟩ ++ rest)] w fun e w' => e = .returned (.bool false) ∧ w' = w :=
  zz_holds b _ false w (holds_flat b root _ w h1 h2 (ext_ne root rest u))
theorem ext_dot (b : Nat) (root rest : ByteArray) (u : UInt8) (w : World) (hd : (root.toList == [46]) = true) (h1 : w.cell? ⟨b, 1, none⟩ = some (.string root)) (h2 : w.cell? ⟨b, 2, none⟩ = some (.bool true)) :
    Calls Trym.prog 8 #[.pointer (some ⟨b, 0, none⟩), .string (root ++ ⟨#[u]⟩ ++ rest)] w fun e w' => e = .returned (.bool true) ∧ w' = w :=
  zz_holds b _ true w (holds_deep b root _ true w h1 h2 (ext_ne root rest u) fun w => within_dot _ root (ext_ne' root rest u) hd w)
theorem ext_plain (b : Nat) (root rest : ByteArray) (u : UInt8) (v : Bool) (hv : (u == 47) = v) (w : World) (hs : root.size ≤ 1048576) (hd : (root.toList == [46]) = false) (h1 : w.cell? ⟨b, 1, none⟩ = some (.string root)) (h2 : w.cell? ⟨b, 2, none⟩ = some (.bool true)) :
    Calls Trym.prog 8 #[.pointer (some ⟨b, 0, none⟩), .string (root ++ ⟨#[u]⟩ ++ rest)] w fun e w' => e = .returned (.bool v) ∧ w' = w := by
  refine zz_holds b _ v w (holds_deep b root _ v w h1 h2 (ext_ne root rest u) fun w => ?_)
  have hw := within_plain _ root hs (ext_ne' root rest u) hd w
  rw [ext_prefix root rest u, hv] at hw
  exact hw

set_option maxHeartbeats 400000 in
theorem slash_flat (token root : ByteArray) (shared : Bool) (a : Option Addr) (n c : Nat) (timeout ch : Int) (u : UInt8) (hu : UInt8.ofNat ch.toNat = u) (rest : ByteArray) (w : World) (hf : token.size + root.size + n + rest.size ≤ 1048576)
    (hb : Calls Trym.prog 9 #[.string token, .string root, .bool false, .bool shared, .slice a n c, .int .i64 timeout, .int .u8 ch, .string rest] w fun e w' => e = .returned (.bool true) ∧ w' = w)
    (hc : Calls Trym.prog 6 #[.slice a n c] w fun e w' => (∃ a m k, e = .returned (.slice a m k)) ∧ Below w.heap.size w w') :
    Calls Trym.prog 4 #[.string token, .string root, .bool false, .bool shared, .slice a n c, .int .i64 timeout, .int .u8 ch, .string rest] w fun e w' => e = .returned (.bool true) ∧ Below w.heap.size w w' := by
  have f1 : (token.size : Int) ≤ 1048576 := by omega
  have f2 : (token.size : Int) + (root.size : Int) ≤ 1048576 := by omega
  have f3 : (token.size : Int) + (root.size : Int) + (n : Int) ≤ 1048576 := by omega
  have f4 : (token.size : Int) + (root.size : Int) + (n : Int) + (rest.size : Int) ≤ 1048576 := by omega
  have HU : Hid (UInt8.ofNat ch.toNat = u) := hu
  clear hu
  go_enter Trym.func4, Trym.ntmps4
  go_wp2_with fail
  refine hb.mono ?_
  rintro e w' ⟨rfl, hq⟩
  rw [hq]
  go_wp2_with fail
  refine hc.mono ?_
  rintro e w1 ⟨⟨a1, n1, c1, rfl⟩, hb1⟩
  have HB1 : Hid (Below w.heap.size w w1) := hb1
  clear hb1 hb hc hq
  go_wp2_with fail
  refine (new_any token root false shared a1 n1 c1 timeout w1).mono ?_
  rintro e w2 ⟨rfl, hc1, hc2, hb2⟩
  have hcv := conv_one w2 ch u HU.out
  have hlt : w1.heap.size < w2.heap.size := World.block_lt_of_cell? _ _ hc1
  have k1 : (w2.alloc (.cells #[.int .u8 ch] 5)).cell? ⟨w1.heap.size, 1, none⟩ = some (.string root) := (((Below.refl _ w2).alloc (Nat.le_refl _) _).cell (p := ⟨w1.heap.size, 1, none⟩) hlt).trans hc1
  have k2 : (w2.alloc (.cells #[.int .u8 ch] 5)).cell? ⟨w1.heap.size, 2, none⟩ = some (.bool false) := (((Below.refl _ w2).alloc (Nat.le_refl _) _).cell (p := ⟨w1.heap.size, 2, none⟩) hlt).trans hc2
  have HB2 : Hid (Below w1.heap.size w1 w2) := hb2
  clear hb2 hc1 hc2
  go_wp2_with fail
  refine (zz_holds _ _ true _ (holds_self _ root _ k1)).mono ?_
  rintro e w' ⟨rfl, hq⟩
  rw [hq]
  clear hq
  go_wp2_with fail
  refine (ext_flat _ root rest u _ k1 k2).mono ?_
  rintro e w' ⟨rfl, hq⟩
  rw [hq]
  go_wp2
  go_ret
  exact ⟨rfl, (HB1.out.trans (HB2.out.mono HB1.out.size)).alloc (Nat.le_trans HB1.out.size HB2.out.size) _⟩

set_option maxHeartbeats 400000 in
theorem slash_dot (token root : ByteArray) (shared : Bool) (a : Option Addr) (n c : Nat) (timeout ch : Int) (u : UInt8) (hu : UInt8.ofNat ch.toNat = u) (rest : ByteArray) (w : World) (hf : token.size + root.size + n + rest.size ≤ 1048576) (hd : (root.toList == [46]) = true)
    (hb : Calls Trym.prog 9 #[.string token, .string root, .bool true, .bool shared, .slice a n c, .int .i64 timeout, .int .u8 ch, .string rest] w fun e w' => e = .returned (.bool true) ∧ w' = w)
    (hc : Calls Trym.prog 6 #[.slice a n c] w fun e w' => (∃ a m k, e = .returned (.slice a m k)) ∧ Below w.heap.size w w') :
    Calls Trym.prog 4 #[.string token, .string root, .bool true, .bool shared, .slice a n c, .int .i64 timeout, .int .u8 ch, .string rest] w fun e w' => e = .returned (.bool true) ∧ Below w.heap.size w w' := by
  have f1 : (token.size : Int) ≤ 1048576 := by omega
  have f2 : (token.size : Int) + (root.size : Int) ≤ 1048576 := by omega
  have f3 : (token.size : Int) + (root.size : Int) + (n : Int) ≤ 1048576 := by omega
  have f4 : (token.size : Int) + (root.size : Int) + (n : Int) + (rest.size : Int) ≤ 1048576 := by omega
  have HU : Hid (UInt8.ofNat ch.toNat = u) := hu
  clear hu
  go_enter Trym.func4, Trym.ntmps4
  go_wp2_with fail
  refine hb.mono ?_
  rintro e w' ⟨rfl, hq⟩
  rw [hq]
  go_wp2_with fail
  refine hc.mono ?_
  rintro e w1 ⟨⟨a1, n1, c1, rfl⟩, hb1⟩
  have HB1 : Hid (Below w.heap.size w w1) := hb1
  clear hb1 hb hc hq
  go_wp2_with fail
  refine (new_any token root true shared a1 n1 c1 timeout w1).mono ?_
  rintro e w2 ⟨rfl, hc1, hc2, hb2⟩
  have hcv := conv_one w2 ch u HU.out
  have hlt : w1.heap.size < w2.heap.size := World.block_lt_of_cell? _ _ hc1
  have k1 : (w2.alloc (.cells #[.int .u8 ch] 5)).cell? ⟨w1.heap.size, 1, none⟩ = some (.string root) := (((Below.refl _ w2).alloc (Nat.le_refl _) _).cell (p := ⟨w1.heap.size, 1, none⟩) hlt).trans hc1
  have k2 : (w2.alloc (.cells #[.int .u8 ch] 5)).cell? ⟨w1.heap.size, 2, none⟩ = some (.bool true) := (((Below.refl _ w2).alloc (Nat.le_refl _) _).cell (p := ⟨w1.heap.size, 2, none⟩) hlt).trans hc2
  have HB2 : Hid (Below w1.heap.size w1 w2) := hb2
  clear hb2 hc1 hc2
  go_wp2_with fail
  refine (zz_holds _ _ true _ (holds_self _ root _ k1)).mono ?_
  rintro e w' ⟨rfl, hq⟩
  rw [hq]
  clear hq
  go_wp2_with fail
  refine (ext_dot _ root rest u _ hd k1 k2).mono ?_
  rintro e w' ⟨rfl, hq⟩
  rw [hq]
  go_wp2
  go_ret
  exact ⟨rfl, (HB1.out.trans (HB2.out.mono HB1.out.size)).alloc (Nat.le_trans HB1.out.size HB2.out.size) _⟩

set_option maxHeartbeats 400000 in
theorem slash_yes (token root : ByteArray) (shared : Bool) (a : Option Addr) (n c : Nat) (timeout ch : Int) (u : UInt8) (hu : UInt8.ofNat ch.toNat = u) (rest : ByteArray) (w : World) (hf : token.size + root.size + n + rest.size ≤ 1048576) (hd : (root.toList == [46]) = false) (h47 : (ch == 47) = true) (hv : (u == 47) = true)
    (hb : Calls Trym.prog 9 #[.string token, .string root, .bool true, .bool shared, .slice a n c, .int .i64 timeout, .int .u8 ch, .string rest] w fun e w' => e = .returned (.bool true) ∧ w' = w)
    (hc : Calls Trym.prog 6 #[.slice a n c] w fun e w' => (∃ a m k, e = .returned (.slice a m k)) ∧ Below w.heap.size w w') :
    Calls Trym.prog 4 #[.string token, .string root, .bool true, .bool shared, .slice a n c, .int .i64 timeout, .int .u8 ch, .string rest] w fun e w' => e = .returned (.bool true) ∧ Below w.heap.size w w' := by
  have f1 : (token.size : Int) ≤ 1048576 := by omega
  have f2 : (token.size : Int) + (root.size : Int) ≤ 1048576 := by omega
  have f3 : (token.size : Int) + (root.size : Int) + (n : Int) ≤ 1048576 := by omega
  have f4 : (token.size : Int) + (root.size : Int) + (n : Int) + (rest.size : Int) ≤ 1048576 := by omega
  have HU : Hid (UInt8.ofNat ch.toNat = u) := hu
  clear hu
  go_enter Trym.func4, Trym.ntmps4
  go_wp2_with fail
  refine hb.mono ?_
  rintro e w' ⟨rfl, hq⟩
  rw [hq]
  go_wp2_with fail
  refine hc.mono ?_
  rintro e w1 ⟨⟨a1, n1, c1, rfl⟩, hb1⟩
  have HB1 : Hid (Below w.heap.size w w1) := hb1
  clear hb1 hb hc hq
  go_wp2_with fail
  refine (new_any token root true shared a1 n1 c1 timeout w1).mono ?_
  rintro e w2 ⟨rfl, hc1, hc2, hb2⟩
  have hcv := conv_one w2 ch u HU.out
  have hlt : w1.heap.size < w2.heap.size := World.block_lt_of_cell? _ _ hc1
  have k1 : (w2.alloc (.cells #[.int .u8 ch] 5)).cell? ⟨w1.heap.size, 1, none⟩ = some (.string root) := (((Below.refl _ w2).alloc (Nat.le_refl _) _).cell (p := ⟨w1.heap.size, 1, none⟩) hlt).trans hc1
  have k2 : (w2.alloc (.cells #[.int .u8 ch] 5)).cell? ⟨w1.heap.size, 2, none⟩ = some (.bool true) := (((Below.refl _ w2).alloc (Nat.le_refl _) _).cell (p := ⟨w1.heap.size, 2, none⟩) hlt).trans hc2
  have HB2 : Hid (Below w1.heap.size w1 w2) := hb2
  clear hb2 hc1 hc2
  go_wp2_with fail
  refine (zz_holds _ _ true _ (holds_self _ root _ k1)).mono ?_
  rintro e w' ⟨rfl, hq⟩
  rw [hq]
  clear hq
  go_wp2_with fail
  refine (ext_plain _ root rest u true hv _ (by omega) hd k1 k2).mono ?_
  rintro e w' ⟨rfl, hq⟩
  rw [hq]
  go_wp2
  go_ret
  exact ⟨rfl, (HB1.out.trans (HB2.out.mono HB1.out.size)).alloc (Nat.le_trans HB1.out.size HB2.out.size) _⟩

set_option maxHeartbeats 400000 in
theorem slash_no (token root : ByteArray) (shared : Bool) (a : Option Addr) (n c : Nat) (timeout ch : Int) (u : UInt8) (hu : UInt8.ofNat ch.toNat = u) (rest : ByteArray) (w : World) (hf : token.size + root.size + n + rest.size ≤ 1048576) (hd : (root.toList == [46]) = false) (h47 : (ch == 47) = false) (hv : (u == 47) = false)
    (hb : Calls Trym.prog 9 #[.string token, .string root, .bool true, .bool shared, .slice a n c, .int .i64 timeout, .int .u8 ch, .string rest] w fun e w' => e = .returned (.bool true) ∧ w' = w)
    (hc : Calls Trym.prog 6 #[.slice a n c] w fun e w' => (∃ a m k, e = .returned (.slice a m k)) ∧ Below w.heap.size w w') :
    Calls Trym.prog 4 #[.string token, .string root, .bool true, .bool shared, .slice a n c, .int .i64 timeout, .int .u8 ch, .string rest] w fun e w' => e = .returned (.bool true) ∧ Below w.heap.size w w' := by
  have f1 : (token.size : Int) ≤ 1048576 := by omega
  have f2 : (token.size : Int) + (root.size : Int) ≤ 1048576 := by omega
  have f3 : (token.size : Int) + (root.size : Int) + (n : Int) ≤ 1048576 := by omega
  have f4 : (token.size : Int) + (root.size : Int) + (n : Int) + (rest.size : Int) ≤ 1048576 := by omega
  have HU : Hid (UInt8.ofNat ch.toNat = u) := hu
  clear hu
  go_enter Trym.func4, Trym.ntmps4
  go_wp2_with fail
  refine hb.mono ?_
  rintro e w' ⟨rfl, hq⟩
  rw [hq]
  go_wp2_with fail
  refine hc.mono ?_
  rintro e w1 ⟨⟨a1, n1, c1, rfl⟩, hb1⟩
  have HB1 : Hid (Below w.heap.size w w1) := hb1
  clear hb1 hb hc hq
  go_wp2_with fail
  refine (new_any token root true shared a1 n1 c1 timeout w1).mono ?_
  rintro e w2 ⟨rfl, hc1, hc2, hb2⟩
  have hcv := conv_one w2 ch u HU.out
  have hlt : w1.heap.size < w2.heap.size := World.block_lt_of_cell? _ _ hc1
  have k1 : (w2.alloc (.cells #[.int .u8 ch] 5)).cell? ⟨w1.heap.size, 1, none⟩ = some (.string root) := (((Below.refl _ w2).alloc (Nat.le_refl _) _).cell (p := ⟨w1.heap.size, 1, none⟩) hlt).trans hc1
  have k2 : (w2.alloc (.cells #[.int .u8 ch] 5)).cell? ⟨w1.heap.size, 2, none⟩ = some (.bool true) := (((Below.refl _ w2).alloc (Nat.le_refl _) _).cell (p := ⟨w1.heap.size, 2, none⟩) hlt).trans hc2
  have HB2 : Hid (Below w1.heap.size w1 w2) := hb2
  clear hb2 hc1 hc2
  go_wp2_with fail
  refine (zz_holds _ _ true _ (holds_self _ root _ k1)).mono ?_
  rintro e w' ⟨rfl, hq⟩
  rw [hq]
  clear hq
  go_wp2_with fail
  refine (ext_plain _ root rest u false hv _ (by omega) hd k1 k2).mono ?_
  rintro e w' ⟨rfl, hq⟩
  rw [hq]
  go_wp2
  go_ret
  exact ⟨rfl, (HB1.out.trans (HB2.out.mono HB1.out.size)).alloc (Nat.le_trans HB1.out.size HB2.out.size) _⟩

/-- The law, where the sizes do not fit: it returns true at once. -/
theorem slash_too_long (token root : ByteArray) (deep shared : Bool) (a : Option Addr) (n c : Nat) (timeout ch : Int) (rest : ByteArray) (w : World)
    (hb : Calls Trym.prog 9 #[.string token, .string root, .bool deep, .bool shared, .slice a n c, .int .i64 timeout, .int .u8 ch, .string rest] w fun e w' => e = .returned (.bool false) ∧ w' = w) :
    Calls Trym.prog 4 #[.string token, .string root, .bool deep, .bool shared, .slice a n c, .int .i64 timeout, .int .u8 ch, .string rest] w fun e w' => e = .returned (.bool true) ∧ Below w.heap.size w w' := by
  go_enter Trym.func4, Trym.ntmps4
  go_wp2_with fail
  refine hb.mono ?_
  rintro e w' ⟨rfl, hq⟩
  rw [hq]
  go_wp2
  go_ret
  exact ⟨rfl, Below.refl _ _⟩

/-- The byte and its number. -/
theorem byte_is (ch : Int) (c0 : 0 ≤ ch) (c1 : ch ≤ 255) : (UInt8.ofNat ch.toNat == 47) = (ch == 47) := by
  rw [Bool.eq_iff_iff, beq_iff_eq, beq_iff_eq, ← UInt8.toNat_inj, UInt8.toNat_ofNat']
  show ch.toNat % 2 ^ 8 = 47 ↔ ch = 47
  omega

theorem slash_any (token root : ByteArray) (deep shared : Bool) (a : Option Addr) (n c : Nat) (zs : List Int) (timeout ch : Int) (c0 : 0 ≤ ch) (c1 : ch ≤ 255) (rest : ByteArray) (w : World) (h0 : token.size ≤ maxLen) (h1 : root.size ≤ maxLen)
    (h4 : (a = none ∧ n = 0 ∧ c = 0 ∧ zs = []) ∨ ∃ x, a = some x ∧ n ≤ c ∧ c ≤ maxLen ∧ zs.length = c ∧ (∀ i, i < zs.length → w.cell? (x.add i) = some (.int .u8 (zs.getD i 0))) ∧ ∀ m ∈ zs, (Lit.int .u8 m).wf = true) (h6 : rest.size ≤ maxLen) :
    Calls Trym.prog 4 #[.string token, .string root, .bool deep, .bool shared, .slice a n c, .int .i64 timeout, .int .u8 ch, .string rest] w fun e w' => e = .returned (.bool true) ∧ Below w.heap.size w w' := by
  have hn : n ≤ maxLen := by
    rcases h4 with ⟨_, h, _⟩ | ⟨_, _, h, h', _⟩
    · omega
    · omega
  have hb := bytes9 token root deep shared a n c timeout ch rest w h0 h1 hn h6
  by_cases hf : token.size + root.size + n + rest.size ≤ 1048576
  · rw [decide_eq_true hf] at hb
    have hc := clone_any a n c zs w (by omega) h4
    have hu := byte_is ch c0 c1
    cases deep with
    | false => exact slash_flat token root shared a n c timeout ch _ rfl rest w hf hb hc
    | true =>
      by_cases hd : (root.toList == [46]) = true
      · exact slash_dot token root shared a n c timeout ch _ rfl rest w hf hd hb hc
      · have hd' : (root.toList == [46]) = false := by simpa using hd
        by_cases h47 : (ch == 47) = true
        · exact slash_yes token root shared a n c timeout ch _ rfl rest w hf hd' h47 (hu.trans h47) hb hc
        · have h47' : (ch == 47) = false := by simpa using h47
          exact slash_no token root shared a n c timeout ch _ rfl rest w hf hd' h47' (hu.trans h47') hb hc
  · rw [decide_eq_false hf] at hb
    exact slash_too_long token root deep shared a n c timeout ch rest w hb
end Go.Proofs.Qxb6612813aMods
