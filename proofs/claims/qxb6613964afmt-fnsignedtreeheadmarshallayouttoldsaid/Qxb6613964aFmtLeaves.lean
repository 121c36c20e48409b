import Derived.Test.Qxb6613964aFmtProg
import Derived.Test.Qxb6613964aFmtBase
import Derived.WalkSpells
import Derived.WalkLawsBesides
namespace Go.Proofs.Qxb6613964aFmt
open Go.RowKit
theorem Tryf.info5 : (Tryf.prog.info? 5).map (fun i => (i.zero, i.size, i.bytes)) = some (some (.int .u8 0), 1, 1) := by kernel_rfl
set_option maxHeartbeats 400000 in
theorem u16m (w : World) (v : Value) (bs : List Int) (x : Int) (B : Nat) (hown : Own w B 5 v bs) (hl : bs.length ≤ 1099511627776) (hB : B ≤ w.heap.size) (hx : 0 ≤ x) (hx2 : x ≤ 65535) :
    Calls Tryf.prog 25 #[.agg #[], v, .int .u16 x] w fun e w' => ∃ v', e = .returned v' ∧ Own w' B 5 v' (bs ++ [x / 256, x % 256]) ∧ Ap w w' v v' := by
  obtain ⟨i0, hi, hz0, hz1, hz2⟩ := info_parts Tryf.info5
  go_enter Tryf.func25, Tryf.ntmps25
  go_wp2_with (at_builtin; refine wpList_append_ap _ rfl _ _ 22 rfl B 5 i0 Tryf.underlying22 hi hz0 hz1 hz2 v bs rfl ((hown.alloc _).alloc _) (some ⟨w.heap.size + 1, 0, none⟩) 2 2 [x / 256, x % 256] rfl rfl (Src.litAt (by simp) rfl) (fun h => by cases h) (by simp; omega) (by simp; omega) ?_; intro v' w' ho ha)
  go_ret
  exact ⟨v', rfl, ho, (((Ap.alloc w v _).trans (Ap.alloc _ v _)).trans ha)⟩

def be64 (x : Int) : List Int := [x / 72057594037927936, x / 281474976710656 % 256, x / 1099511627776 % 256, x / 4294967296 % 256, x / 16777216 % 256, x / 65536 % 256, x / 256 % 256, x % 256]

set_option maxHeartbeats 400000 in
theorem u64m (w : World) (v : Value) (bs : List Int) (x : Int) (B : Nat) (hown : Own w B 5 v bs) (hl : bs.length ≤ 1099511627776) (hB : B ≤ w.heap.size) (hx : 0 ≤ x) (hx2 : x ≤ 18446744073709551615) :
    Calls Tryf.prog 22 #[.agg #[], v, .int .u64 x] w fun e w' => ∃ v', e = .returned v' ∧ Own w' B 5 v' (bs ++ be64 x) ∧ Ap w w' v v' := by
  obtain ⟨i0, hi, hz0, hz1, hz2⟩ := info_parts Tryf.info5
  go_enter Tryf.func22, Tryf.ntmps22
  go_wp2_with (at_builtin; refine wpList_append_ap _ rfl _ _ 22 rfl B 5 i0 Tryf.underlying22 hi hz0 hz1 hz2 v bs rfl ((hown.alloc _).alloc _) (some ⟨w.heap.size + 1, 0, none⟩) 8 8 (be64 x) rfl rfl (Src.litAt (by simp) rfl) (fun h => by cases h) (by simp [be64]; omega) (by simp; omega) ?_; intro v' w' ho ha)
  go_ret
  exact ⟨v', rfl, ho, (((Ap.alloc w v _).trans (Ap.alloc _ v _)).trans ha)⟩

set_option maxHeartbeats 400000 in
theorem u16w (w : World) (v : Value) (bs : List Int) (x : Int) (B : Nat) (hown : Own w B 5 v bs) (hl : bs.length ≤ 1099511627776) (hB : B ≤ w.heap.size) (hx : 0 ≤ x) (hx2 : x ≤ 65535) :
    Calls Tryf.prog 23 #[v, .int .u16 x] w fun e w' => ∃ v', e = .returned v' ∧ Own w' B 5 v' (bs ++ [x / 256, x % 256]) ∧ Ap w w' v v' := by
  go_enter Tryf.func23, Tryf.ntmps23
  go_wp2_with fail
  refine (u16m _ _ _ _ _ hown hl hB hx hx2).mono ?_
  rintro e w' ⟨v', rfl, ho, ha⟩
  go_wp2
  go_ret
  exact ⟨v', rfl, ho, ha⟩

set_option maxHeartbeats 400000 in
theorem u64w (w : World) (v : Value) (bs : List Int) (x : Int) (B : Nat) (hown : Own w B 5 v bs) (hl : bs.length ≤ 1099511627776) (hB : B ≤ w.heap.size) (hx : 0 ≤ x) (hx2 : x ≤ 18446744073709551615) :
    Calls Tryf.prog 17 #[v, .int .u64 x] w fun e w' => ∃ v', e = .returned v' ∧ Own w' B 5 v' (bs ++ be64 x) ∧ Ap w w' v v' := by
  go_enter Tryf.func17, Tryf.ntmps17
  go_wp2_with fail
  refine (u64m _ _ _ _ _ hown hl hB hx hx2).mono ?_
  rintro e w' ⟨v', rfl, ho, ha⟩
  go_wp2
  go_ret
  exact ⟨v', rfl, ho, ha⟩

set_option maxHeartbeats 400000 in
/-- newItem(t) -/
theorem newItem_any (w : World) (x : Int) (B : Nat) (hB : B ≤ w.heap.size) (hx : 0 ≤ x) (hx2 : x ≤ 65535) :
    Calls Tryf.prog 20 #[.int .u16 x] w fun e w' => ∃ v', e = .returned v' ∧ Own w' B 5 v' [x / 256, x % 256] ∧ Ap w w' (.slice none 0 0) v' := by
  go_enter Tryf.func20, Tryf.ntmps20
  go_wp2_with fail
  refine (u16w _ _ [] _ B (Own.nil _ _ _) (by simp) hB hx hx2).mono ?_
  rintro e w' ⟨v', rfl, ho, ha⟩
  go_wp2
  go_ret
  exact ⟨v', rfl, ho, ha⟩

set_option maxHeartbeats 400000 in
/-- appendNoExtensions(b) -/
theorem noExt_any (w : World) (v : Value) (bs : List Int) (B : Nat) (hown : Own w B 5 v bs) (hl : bs.length ≤ 1099511627776) (hB : B ≤ w.heap.size) :
    Calls Tryf.prog 18 #[v] w fun e w' => ∃ v', e = .returned v' ∧ Own w' B 5 v' (bs ++ [0, 0]) ∧ Ap w w' v v' := by
  go_enter Tryf.func18, Tryf.ntmps18
  go_wp2_with fail
  refine (u16w _ _ bs 0 B hown hl hB (by decide) (by decide)).mono ?_
  rintro e w' ⟨v', rfl, ho, ha⟩
  go_wp2
  go_ret
  exact ⟨v', rfl, ho, ha⟩
end Go.Proofs.Qxb6613964aFmt
