import Derived.Test.Qxb6612813aModsLock
import Derived.Test.Qxb6612813aModsClone
import Derived.Test.Qxb6612813aModsPlain
namespace Go.Proofs.Qxb6612813aMods
open Go.RowKit

theorem addr_add (b off i : Nat) : (⟨b, off, none⟩ : Addr).add i = ⟨b, off + i, none⟩ := by
  unfold Addr.add
  split <;> simp_all

/-- zzCloneBytesB1, whatever slice of bytes came in. -/
theorem clone_any (a : Option Addr) (n c : Nat) (zs : List Int) (w : World) (hn : n ≤ 1048576)
    (h : (a = none ∧ n = 0 ∧ c = 0 ∧ zs = []) ∨ ∃ x, a = some x ∧ n ≤ c ∧ c ≤ maxLen ∧ zs.length = c ∧ (∀ i, i < zs.length → w.cell? (x.add i) = some (.int .u8 (zs.getD i 0))) ∧ ∀ m ∈ zs, (Lit.int .u8 m).wf = true) :
    Calls Trym.prog 6 #[.slice a n c] w fun e w' => (∃ a m k, e = .returned (.slice a m k)) ∧ Below w.heap.size w w' := by
  rcases h with ⟨rfl, rfl, rfl, _⟩ | ⟨x, rfl, h1, _, h3, h4, _⟩
  · exact clone_nil w
  · by_cases n0 : n = 0
    · subst n0
      exact clone_empty x c w
    · obtain ⟨b, off, spot⟩ := x
      have hspot : spot = none := by simpa [Addr.add] using World.cell?_spot (h4 0 (by omega))
      subst hspot
      have h5 : ∀ i, i < n → w.cell? ⟨b, off + i, none⟩ = some (.int .u8 (zs.getD i 0)) := fun i hi => by rw [← addr_add]; exact h4 i (by omega)
      exact clone_row b off n c zs w (by omega) hn (World.block_lt_of_cell? _ _ (h5 0 (by omega))) h5

/-- The lock on 'root', asked for 'root/rest'. -/
theorem under_holds (b : Nat) (root rest : ByteArray) (deep : Bool) (w : World) (hs : root.size ≤ 1048576) (h1 : w.cell? ⟨b, 1, none⟩ = some (.string root)) (h2 : w.cell? ⟨b, 2, none⟩ = some (.bool deep)) :
    Calls Trym.prog 8 #[.pointer (some ⟨b, 0, none⟩), .string (root ++ ⟨#[47]⟩ ++ rest)] w fun e w' => e = .returned (.bool deep) ∧ w' = w := by
  refine zz_holds b _ deep w ?_
  cases deep with
  | false => exact holds_flat b root _ w h1 h2 (ext_ne root rest 47)
  | true =>
    refine holds_deep b root _ true w h1 h2 (ext_ne root rest 47) fun w => ?_
    by_cases hd : (root.toList == [46]) = true
    · exact within_dot _ root (ext_ne' root rest 47) hd w
    · have hw := within_plain _ root hs (ext_ne' root rest 47) (by simpa using hd) w
      rw [ext_prefix root rest 47] at hw
      exact hw

set_option maxHeartbeats 400000 in
/-- The law, where the sizes fit. -/
theorem law_fits (token root : ByteArray) (deep shared : Bool) (a : Option Addr) (n c : Nat) (timeout : Int) (rest : ByteArray) (w : World) (hf : token.size + root.size + n + rest.size ≤ 1048576)
    (hb : Calls Trym.prog 5 #[.string token, .string root, .bool deep, .bool shared, .slice a n c, .int .i64 timeout, .string rest] w fun e w' => e = .returned (.bool true) ∧ w' = w)
    (hc : Calls Trym.prog 6 #[.slice a n c] w fun e w' => (∃ a m k, e = .returned (.slice a m k)) ∧ Below w.heap.size w w') :
    Calls Trym.prog 3 #[.string token, .string root, .bool deep, .bool shared, .slice a n c, .int .i64 timeout, .string rest] w fun e w' => e = .returned (.bool true) ∧ Below w.heap.size w w' := by
  have f1 : (token.size : Int) ≤ 1048576 := by omega
  have f2 : (token.size : Int) + (root.size : Int) ≤ 1048576 := by omega
  have f3 : (token.size : Int) + (root.size : Int) + (n : Int) ≤ 1048576 := by omega
  have f4 : (token.size : Int) + (root.size : Int) + (n : Int) + (rest.size : Int) ≤ 1048576 := by omega
  go_enter Trym.func3, Trym.ntmps3
  go_wp2_with fail
  refine hb.mono ?_
  rintro e w' ⟨rfl, hq⟩
  rw [hq]
  go_wp2_with fail
  refine hc.mono ?_
  rintro e w1 ⟨⟨a1, n1, c1, rfl⟩, hb1⟩
  have HB1 : Hid (Below w.heap.size w w1) := hb1
  clear hb1 hb hc hq
  go_wp2_with fail
  refine (new_any token root deep shared a1 n1 c1 timeout w1).mono ?_
  rintro e w2 ⟨rfl, hc1, hc2, hb2⟩
  have HB2 : Hid (Below w1.heap.size w1 w2) := hb2
  clear hb2
  go_wp2_with fail
  refine (zz_holds _ _ true w2 (holds_self _ root w2 hc1)).mono ?_
  rintro e w' ⟨rfl, hq⟩
  rw [hq]
  clear hq
  go_wp2_with fail
  refine (under_holds _ root rest deep w2 (by omega) hc1 hc2).mono ?_
  rintro e w' ⟨rfl, hq⟩
  rw [hq]
  go_wp2
  go_ret
  exact ⟨rfl, HB1.out.trans (HB2.out.mono HB1.out.size)⟩

/-- The law, where the sizes do not fit: it returns true at once. -/
theorem law_too_long (token root : ByteArray) (deep shared : Bool) (a : Option Addr) (n c : Nat) (timeout : Int) (rest : ByteArray) (w : World)
    (hb : Calls Trym.prog 5 #[.string token, .string root, .bool deep, .bool shared, .slice a n c, .int .i64 timeout, .string rest] w fun e w' => e = .returned (.bool false) ∧ w' = w) :
    Calls Trym.prog 3 #[.string token, .string root, .bool deep, .bool shared, .slice a n c, .int .i64 timeout, .string rest] w fun e w' => e = .returned (.bool true) ∧ Below w.heap.size w w' := by
  go_enter Trym.func3, Trym.ntmps3
  go_wp2_with fail
  refine hb.mono ?_
  rintro e w' ⟨rfl, hq⟩
  rw [hq]
  go_wp2
  go_ret
  exact ⟨rfl, Below.refl _ _⟩

theorem law_any (token root : ByteArray) (deep shared : Bool) (a : Option Addr) (n c : Nat) (zs : List Int) (timeout : Int) (rest : ByteArray) (w : World) (h0 : token.size ≤ maxLen) (h1 : root.size ≤ maxLen)
    (h4 : (a = none ∧ n = 0 ∧ c = 0 ∧ zs = []) ∨ ∃ x, a = some x ∧ n ≤ c ∧ c ≤ maxLen ∧ zs.length = c ∧ (∀ i, i < zs.length → w.cell? (x.add i) = some (.int .u8 (zs.getD i 0))) ∧ ∀ m ∈ zs, (Lit.int .u8 m).wf = true) (h6 : rest.size ≤ maxLen) :
    Calls Trym.prog 3 #[.string token, .string root, .bool deep, .bool shared, .slice a n c, .int .i64 timeout, .string rest] w fun e w' => e = .returned (.bool true) ∧ Below w.heap.size w w' := by
  have hn : n ≤ maxLen := by
    rcases h4 with ⟨_, h, _⟩ | ⟨_, _, h, h', _⟩
    · omega
    · omega
  have hb := bytes5 token root deep shared a n c timeout rest w h0 h1 hn h6
  by_cases hf : token.size + root.size + n + rest.size ≤ 1048576
  · rw [decide_eq_true hf] at hb
    exact law_fits token root deep shared a n c timeout rest w hf hb (clone_any a n c zs w (by omega) h4)
  · rw [decide_eq_false hf] at hb
    exact law_too_long token root deep shared a n c timeout rest w hb
end Go.Proofs.Qxb6612813aMods
