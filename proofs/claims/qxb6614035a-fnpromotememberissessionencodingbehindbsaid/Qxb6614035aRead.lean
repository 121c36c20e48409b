import Derived.Test.Qxb6614035aEnc
import Derived.BigQuiet
import Derived.Deep.QuietTactic
namespace Go.Proofs.Qxb6614035a
open Go.RowKit

theorem Src.at {w : World} {ao : Option Addr} {zs : List Int} (h : Src w ao zs) (hp : 0 < zs.length) : ∃ b off, ao = some ⟨b, off, none⟩ ∧ ∀ j, j < zs.length → w.cell? ⟨b, off + j, none⟩ = some (.int .u8 (zs.getD j 0)) := by
  cases ao with
  | none => have := h.1 rfl; subst this; simp at hp
  | some ad =>
    obtain ⟨b, off, rfl, hc⟩ := ints_at (h.2 ad rfl) hp
    exact ⟨b, off, rfl, hc⟩

theorem Src.drewN {w : World} {ao : Option Addr} {zs : List Int} (h : Src w ao zs) (q : Nat) : Src (w.drewN q) ao zs := h
theorem Own.drewN {w : World} {B : Nat} {e : TypeId} {v : Value} {bs : List Int} (h : Own w B e v bs) (q : Nat) : Own (w.drewN q) B e v bs := h

set_option maxRecDepth 10000 in
set_option maxHeartbeats 400000 in
/-- zzHasAt(p, i, q), where q does stand there -/
theorem hasAt (w : World) (ao bo : Option Addr) (c d : Nat) (ps qs : List Int) (n m i : Nat) (hn : ps.length = n) (hm : qs.length = m) (hp : Src w ao ps) (hq : Src w bo qs) (hln : n ≤ 1099511627776)
    (hfit : i + m ≤ n) (heq : ∀ j, j < m → ps.getD (i + j) 0 = qs.getD j 0) :
    Calls Try.prog 10 #[.slice ao n c, .int .i64 i, .slice bo m d] w fun e w' => e = .returned (.bool true) ∧ ∃ q, w' = w.drewN q := by
  have HN : Hid (ps.length = n) := hn
  have HM : Hid (qs.length = m) := hm
  have HE : Hid (∀ j, j < m → ps.getD (i + j) 0 = qs.getD j 0) := heq
  have h1 : decide ((n : Int) < (i : Int)) = false := by rw [decide_eq_false_iff_not]; omega
  have h2 : decide ((n : Int) - (i : Int) < (m : Int)) = false := by rw [decide_eq_false_iff_not]; omega
  have h3 : decide ((i : Int) < 0) = false := by rw [decide_eq_false_iff_not]; omega
  have hlI : (n : Int) ≤ 1099511627776 := by omega
  have hfI : (i : Int) + (m : Int) ≤ (n : Int) := by omega
  clear hn hm heq hln
  go_enter Try.func10, Try.ntmps10
  go_wp2
  go_loopw [7] (fun j wr => ∃ k q : Nat, k ≤ m ∧ j = .int .i64 k ∧ wr = w.drewN q) (fun j _ => m - (intOf j).toNat)
  case atStart => exact ⟨0, 0, Nat.zero_le _, rfl, rfl⟩
  case round =>
    obtain ⟨k, q, hk, rfl, rfl⟩ := hrel
    by_cases hlt : k < m
    · obtain ⟨b1, o1, rfl, hc1⟩ := hp.at (by rw [HN.out]; omega)
      obtain ⟨b2, o2, rfl, hc2⟩ := hq.at (by rw [HM.out]; omega)
      have hk1 := hc1 (i + k) (by rw [HN.out]; omega)
      have hk2 := hc2 k (by rw [HM.out]; exact hlt)
      rw [HE.out k hlt] at hk1
      clear hc1 hc2 hp hq
      obtain ⟨y, hy⟩ : ∃ y, y = qs.getD k 0 := ⟨_, rfl⟩
      rw [← hy] at hk1 hk2
      clear hy
      have hltI : (k : Int) < (m : Int) := by omega
      have hx1 : ((i : Int) + (k : Int)).toNat = i + k := by omega
      have hx2 : (i : Int) + (k : Int) < (n : Int) := by omega
      have hx3 : 0 ≤ (i : Int) + (k : Int) := by omega
      go_wp2
      go_quiet (fail)
      go_wp2
      go_roundw
      case rel => exact ⟨k + 1, q + nq, by omega, by go_num, by simp⟩
      case measure => simp [intOf]; omega
    · go_wp2
      go_ret
      exact ⟨rfl, q, rfl⟩

set_option maxRecDepth 10000 in
set_option maxHeartbeats 400000 in
/-- zzEqStr(p, s, e, want), where want does stand there -/
theorem eqStr (w : World) (ao : Option Addr) (c : Nat) (ps : List Int) (n i j : Nat) (s : ByteArray) (hn : ps.length = n) (hp : Src w ao ps) (hln : n ≤ 1099511627776)
    (hij : j = i + s.size) (hfit : j ≤ n) (heq : ∀ k, k < s.size → ps.getD (i + k) 0 = (bytesI s).getD k 0) :
    Calls Try.prog 12 #[.slice ao n c, .int .i64 i, .int .i64 j, .string s] w fun e w' => e = .returned (.bool true) ∧ ∃ q, w' = w.drewN q := by
  have HN : Hid (ps.length = n) := hn
  have HE : Hid (∀ k, k < s.size → ps.getD (i + k) 0 = (bytesI s).getD k 0) := heq
  have hlI : (n : Int) ≤ 1099511627776 := by omega
  have hfI : (i : Int) + (s.size : Int) ≤ (n : Int) := by omega
  have hjI : ((j : Int) - (i : Int) != (s.size : Int)) = false := by simp; omega
  have hjb : (j : Int) - (i : Int) < 9223372036854775807 := by omega
  have hjc : 0 ≤ (j : Int) - (i : Int) := by omega
  clear hn heq hln hij
  go_enter Try.func12, Try.ntmps12
  go_wp2
  go_loopw [9] (fun j wr => ∃ k q : Nat, k ≤ s.size ∧ j = .int .i64 k ∧ wr = w.drewN q) (fun j _ => s.size - (intOf j).toNat)
  case atStart => exact ⟨0, 0, Nat.zero_le _, rfl, rfl⟩
  case round =>
    obtain ⟨k, q, hk, rfl, rfl⟩ := hrel
    by_cases hlt : k < s.size
    · obtain ⟨b1, o1, rfl, hc1⟩ := hp.at (by rw [HN.out]; omega)
      have hk1 := hc1 (i + k) (by rw [HN.out]; omega)
      rw [HE.out k hlt, bytesI_get s k hlt] at hk1
      clear hc1 hp
      have hltI : (k : Int) < (s.size : Int) := by omega
      have hx1 : ((i : Int) + (k : Int)).toNat = i + k := by omega
      have hx2 : (i : Int) + (k : Int) < (n : Int) := by omega
      have hx3 : 0 ≤ (i : Int) + (k : Int) := by omega
      go_wp2
      go_quiet (fail)
      go_wp2
      go_roundw
      case rel => exact ⟨k + 1, q + nq, by omega, by go_num, by simp⟩
      case measure => simp [intOf]; omega
    · go_wp2
      go_ret
      exact ⟨rfl, q, rfl⟩

/-- The bytes of a uvarint stand in p at i. -/
def At (ps : List Int) (i : Nat) (qs : List Int) : Prop := i + qs.length ≤ ps.length ∧ ∀ j, j < qs.length → ps.getD (i + j) 0 = qs.getD j 0

theorem and127 (x : Int) : bits .and .u8 (x % 128 + 128) 127 = x % 128 := by
  rw [u8_and127 _ (by omega) (by omega)]
  omega

theorem or0 (x : Int) (h0 : 0 ≤ x) (h1 : x < 18446744073709551616) : bits .or .u64 0 x = x := by
  rw [u64_orv0 0 x (by omega) (by omega) h0 (by omega) h1]
  omega
theorem or7 (x : Int) (h0 : 0 ≤ x) (h1 : x < 16384) : bits .or .u64 (x % 128) (x / 128 * 128) = x := by
  rw [u64_orv7 (x % 128) (x / 128 * 128) (by omega) (by omega) (by omega) (by omega) (by omega)]
  omega
theorem or7b (x : Int) : bits .or .u64 (x % 128) (x / 128 % 128 * 128) = x % 16384 := by
  rw [u64_orv7 (x % 128) (x / 128 % 128 * 128) (by omega) (by omega) (by omega) (by omega) (by omega)]
  omega
theorem or14 (x : Int) (h0 : 0 ≤ x) (h1 : x ≤ 131072) : bits .or .u64 (x % 16384) (x / 16384 * 16384) = x := by
  rw [u64_orv14 (x % 16384) (x / 16384 * 16384) (by omega) (by omega) (by omega) (by omega) (by omega)]
  omega

set_option maxRecDepth 10000 in
set_option maxHeartbeats 400000 in
/-- zzUvarint(p, i), where the uvarint of x below 128 stands there -/
theorem uvar1 (w : World) (ao : Option Addr) (c : Nat) (ps : List Int) (n i : Nat) (x : Int) (hn : ps.length = n) (hp : Src w ao ps) (hln : n ≤ 1099511627776) (hx : 0 ≤ x) (hx2 : x < 128) (hat : At ps i (uv x)) :
    Calls Try.prog 20 #[.slice ao n c, .int .i64 i] w fun e w' => e = .returned (.tuple #[.int .u64 x, .int .i64 ((i + (uv x).length : Nat) : Int), .bool true]) ∧ w' = w := by
  rw [uv1 hx2] at hat ⊢
  obtain ⟨hf, he⟩ := hat
  simp only [List.length_cons, List.length_nil] at hf he ⊢
  obtain ⟨b1, o1, rfl, hc1⟩ := hp.at (by omega)
  have k0 := hc1 (i + 0) (by omega)
  rw [he 0 (by omega)] at k0
  simp only [List.getD_cons_zero, Nat.add_zero] at k0
  rw [hn] at hf
  have d1 : decide ((n : Int) ≤ (i : Int)) = false := by rw [decide_eq_false_iff_not]; omega
  have d2 : decide ((i : Int) < 0) = false := by rw [decide_eq_false_iff_not]; omega
  have hiI : (i : Int) < (n : Int) := by omega
  have hlI : (n : Int) ≤ 1099511627776 := by omega
  clear hn hp he hc1 hf hln
  by_cases hz : x = 0
  · subst hz
    have r0 := or0 0 (by decide) (by decide)
    go_enter Try.func20, Try.ntmps20
    go_wp2_with fail
    refine wp_loop_rounds 1 ?_
    rw [rounds_succ]
    go_wp2
    go_ret3
    exact ⟨by simp, rfl⟩
  · have hzb : (x == 0) = false := by simpa using hz
    have r0 := or0 x hx (by omega)
    go_enter Try.func20, Try.ntmps20
    go_wp2_with fail
    refine wp_loop_rounds 1 ?_
    rw [rounds_succ]
    go_wp2
    go_ret3
    exact ⟨by simp, rfl⟩

set_option maxRecDepth 10000 in
set_option maxHeartbeats 400000 in
theorem uvar2 (w : World) (ao : Option Addr) (c : Nat) (ps : List Int) (n i : Nat) (x : Int) (hn : ps.length = n) (hp : Src w ao ps) (hln : n ≤ 1099511627776) (hx : 128 ≤ x) (hx2 : x < 16384) (hat : At ps i (uv x)) :
    Calls Try.prog 20 #[.slice ao n c, .int .i64 i] w fun e w' => e = .returned (.tuple #[.int .u64 x, .int .i64 ((i + (uv x).length : Nat) : Int), .bool true]) ∧ w' = w := by
  rw [uv2 hx hx2] at hat ⊢
  obtain ⟨hf, he⟩ := hat
  simp only [List.length_cons, List.length_nil] at hf he ⊢
  obtain ⟨b1, o1, rfl, hc1⟩ := hp.at (by omega)
  have k0 := hc1 (i + 0) (by omega)
  rw [he 0 (by omega)] at k0
  simp only [List.getD_cons_zero, Nat.add_zero] at k0
  have k1 := hc1 (i + 1) (by omega)
  rw [he 1 (by omega)] at k1
  simp only [List.getD_cons_zero, List.getD_cons_succ] at k1
  rw [hn] at hf
  have d1 : decide ((n : Int) ≤ (i : Int)) = false := by rw [decide_eq_false_iff_not]; omega
  have d2 : decide ((i : Int) < 0) = false := by rw [decide_eq_false_iff_not]; omega
  have d3 : decide ((n : Int) ≤ (i : Int) + 1) = false := by rw [decide_eq_false_iff_not]; omega
  have d4 : decide ((i : Int) + 1 < 0) = false := by rw [decide_eq_false_iff_not]; omega
  have d5 : (x / 128 == 0) = false := by simp; omega
  have hiI : (i : Int) + 1 < (n : Int) := by omega
  have hlI : (n : Int) ≤ 1099511627776 := by omega
  have q1 := and127 x
  have r0 := or0 (x % 128) (by omega) (by omega)
  have r1 := or7 x (by omega) hx2
  have q2 : ((i : Int) + 1).toNat = i + 1 := by omega
  clear hn hp he hc1 hf hln
  go_enter Try.func20, Try.ntmps20
  go_wp2_with fail
  refine wp_loop_rounds 2 ?_
  rw [rounds_succ]
  go_wp2
  rw [rounds_succ]
  go_wp2
  go_ret3
  exact ⟨by simp; omega, rfl⟩

set_option maxRecDepth 10000 in
set_option maxHeartbeats 800000 in
theorem uvar3 (w : World) (ao : Option Addr) (c : Nat) (ps : List Int) (n i : Nat) (x : Int) (hn : ps.length = n) (hp : Src w ao ps) (hln : n ≤ 1099511627776) (hx : 16384 ≤ x) (hx2 : x ≤ 131072) (hat : At ps i (uv x)) :
    Calls Try.prog 20 #[.slice ao n c, .int .i64 i] w fun e w' => e = .returned (.tuple #[.int .u64 x, .int .i64 ((i + (uv x).length : Nat) : Int), .bool true]) ∧ w' = w := by
  rw [uv3 hx] at hat ⊢
  obtain ⟨hf, he⟩ := hat
  simp only [List.length_cons, List.length_nil] at hf he ⊢
  obtain ⟨b1, o1, rfl, hc1⟩ := hp.at (by omega)
  have k0 := hc1 (i + 0) (by omega)
  rw [he 0 (by omega)] at k0
  simp only [List.getD_cons_zero, Nat.add_zero] at k0
  have k1 := hc1 (i + 1) (by omega)
  rw [he 1 (by omega)] at k1
  simp only [List.getD_cons_zero, List.getD_cons_succ] at k1
  have k2 := hc1 (i + 2) (by omega)
  rw [he 2 (by omega)] at k2
  simp only [List.getD_cons_zero, List.getD_cons_succ] at k2
  rw [hn] at hf
  have d1 : decide ((n : Int) ≤ (i : Int)) = false := by rw [decide_eq_false_iff_not]; omega
  have d2 : decide ((i : Int) < 0) = false := by rw [decide_eq_false_iff_not]; omega
  have d3 : decide ((n : Int) ≤ (i : Int) + 1) = false := by rw [decide_eq_false_iff_not]; omega
  have d4 : decide ((i : Int) + 1 < 0) = false := by rw [decide_eq_false_iff_not]; omega
  have d5 : decide ((n : Int) ≤ (i : Int) + 1 + 1) = false := by rw [decide_eq_false_iff_not]; omega
  have d6 : decide ((i : Int) + 1 + 1 < 0) = false := by rw [decide_eq_false_iff_not]; omega
  have d7 : (x / 16384 == 0) = false := by simp; omega
  have hiI : (i : Int) + 2 < (n : Int) := by omega
  have hlI : (n : Int) ≤ 1099511627776 := by omega
  have q1 := and127 x
  have r0 := or0 (x % 128) (by omega) (by omega)
  have r1 := or7b x
  have r2 := or14 x (by omega) hx2
  have q2 := and127 (x / 128)
  have q3 : ((i : Int) + 1).toNat = i + 1 := by omega
  have q4 : ((i : Int) + 1 + 1).toNat = i + 2 := by omega
  clear hn hp he hc1 hf hln
  go_enter Try.func20, Try.ntmps20
  go_wp2_with fail
  refine wp_loop_rounds 3 ?_
  rw [rounds_succ]
  go_wp2
  rw [rounds_succ]
  go_wp2
  rw [rounds_succ]
  go_wp2
  go_ret3
  exact ⟨by simp; omega, rfl⟩

/-- zzUvarint(p, i), where the uvarint of x stands there -/
theorem uvar (w : World) (ao : Option Addr) (c : Nat) (ps : List Int) (n i : Nat) (x : Int) (hn : ps.length = n) (hp : Src w ao ps) (hln : n ≤ 1099511627776) (hx : 0 ≤ x) (hx2 : x ≤ 131072) (hat : At ps i (uv x)) :
    Calls Try.prog 20 #[.slice ao n c, .int .i64 i] w fun e w' => e = .returned (.tuple #[.int .u64 x, .int .i64 ((i + (uv x).length : Nat) : Int), .bool true]) ∧ w' = w := by
  by_cases h1 : x < 128
  · exact uvar1 w ao c ps n i x hn hp hln hx h1 hat
  · by_cases h2 : x < 16384
    · exact uvar2 w ao c ps n i x hn hp hln (by omega) h2 hat
    · exact uvar3 w ao c ps n i x hn hp hln (by omega) hx2 hat

set_option maxRecDepth 10000 in
set_option maxHeartbeats 400000 in
/-- zzField(p, i), where a field of m bytes stands there -/
theorem field (w : World) (ao : Option Addr) (c : Nat) (ps : List Int) (n i m : Nat) (hn : ps.length = n) (hp : Src w ao ps) (hln : n ≤ 1099511627776) (hm : m ≤ 131072) (hat : At ps i (uv m)) (hfit : i + (uv m).length + m ≤ n) :
    Calls Try.prog 11 #[.slice ao n c, .int .i64 i] w fun e w' => e = .returned (.tuple #[.int .i64 ((i + (uv m).length : Nat) : Int), .int .i64 ((i + (uv m).length + m : Nat) : Int), .bool true]) ∧ w' = w := by
  obtain ⟨k, hk⟩ : ∃ k, k = i + (uv m).length := ⟨_, rfl⟩
  have hu := uvar w ao c ps n i m hn hp hln (by omega) (by omega) hat
  rw [← hk] at hu hfit ⊢
  have HU : Hid (Calls Try.prog 20 #[.slice ao n c, .int .i64 i] w fun e w' => e = .returned (.tuple #[.int .u64 (m : Int), .int .i64 (k : Int), .bool true]) ∧ w' = w) := hu
  have g1 : decide ((n : Int) - (k : Int) < (m : Int)) = false := by rw [decide_eq_false_iff_not]; omega
  have g2 : (k : Int) + (m : Int) ≤ (n : Int) := by omega
  have g3 : (n : Int) ≤ 1099511627776 := by omega
  clear hu hn hp hat hk hln hm hfit
  go_enter Try.func11, Try.ntmps11
  go_wp2_with fail
  refine Calls.mono HU.out ?_
  rintro e w1 ⟨rfl, rfl⟩
  go_wp2
  go_ret3
  exact ⟨by simp, rfl⟩

set_option maxRecDepth 10000 in
set_option maxHeartbeats 400000 in
/-- zzSame(a, b), where they hold the same bytes -/
theorem same_true (w : World) (ao bo : Option Addr) (c d : Nat) (ps : List Int) (n : Nat) (hn : ps.length = n) (hp : Src w ao ps) (hq : Src w bo ps) (hln : n ≤ 1099511627776) :
    Calls Try.prog 15 #[.slice ao n c, .slice bo n d] w fun e w' => e = .returned (.bool true) ∧ ∃ q, w' = w.drewN q := by
  go_enter Try.func15, Try.ntmps15
  go_wp2_with fail
  refine (hasAt w ao bo c d ps ps n n 0 hn hn hp hq hln (by omega) (fun j _ => by rw [Nat.zero_add])).mono ?_
  rintro e w1 ⟨rfl, q, rfl⟩
  go_wp2
  go_ret
  exact ⟨rfl, q, rfl⟩

set_option maxRecDepth 10000 in
set_option maxHeartbeats 400000 in
theorem bytes7 (w : World) (s t : ByteArray) (a : Option Addr) (n c : Nat) (h0 : s.size ≤ maxLen) (h1 : t.size ≤ maxLen) (h2 : n ≤ maxLen) :
    Calls Try.prog 7 #[.string s, .string t, .slice a n c] w fun e w' => ∃ b, e = .returned (.bool b) ∧ w' = w := by
  unfold maxLen at h0 h1 h2
  go_enter Try.func7, Try.ntmps7
  go_wp2
  all_goals (go_ret; exact ⟨_, rfl, rfl⟩)

set_option maxRecDepth 10000 in
set_option maxHeartbeats 400000 in
theorem bytes13 (w : World) (s t : ByteArray) (a b : Option Addr) (n c m d : Nat) (h0 : s.size ≤ maxLen) (h1 : t.size ≤ maxLen) (h2 : n ≤ maxLen) (h3 : m ≤ maxLen) :
    Calls Try.prog 13 #[.string s, .string t, .slice a n c, .slice b m d] w fun e w' => ∃ b, e = .returned (.bool b) ∧ w' = w := by
  unfold maxLen at h0 h1 h2 h3
  go_enter Try.func13, Try.ntmps13
  go_wp2
  all_goals (go_ret; exact ⟨_, rfl, rfl⟩)

end Go.Proofs.Qxb6614035a
