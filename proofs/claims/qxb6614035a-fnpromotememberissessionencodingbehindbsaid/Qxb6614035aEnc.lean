import Derived.Test.Qxb6614035aProg
import Derived.Test.Qxb6614035aBase
import Derived.WalkSpells
import Derived.WalkLawsBesides
import Derived.OpenShut
import Derived.Lib.Varint
import Derived.Lib.VarintBits
import Derived.Laws.IdiomStrings
namespace Go.Proofs.Qxb6614035a
open Go.RowKit

/-- The uvarint of a length up to 1<<17. -/
def uv (x : Int) : List Int := if x < 128 then [x] else if x < 16384 then [x % 128 + 128, x / 128] else [x % 128 + 128, x / 128 % 128 + 128, x / 16384]

theorem uv1 {x : Int} (h : x < 128) : uv x = [x] := by rw [uv, if_pos h]
theorem uv2 {x : Int} (h0 : 128 ≤ x) (h : x < 16384) : uv x = [x % 128 + 128, x / 128] := by rw [uv, if_neg (by omega), if_pos h]
theorem uv3 {x : Int} (h0 : 16384 ≤ x) : uv x = [x % 128 + 128, x / 128 % 128 + 128, x / 16384] := by rw [uv, if_neg (by omega), if_neg (by omega)]
theorem uv_length (x : Int) : (uv x).length ≤ 3 := by
  unfold uv
  split
  · simp
  · split <;> simp

theorem Try.info5 : (Try.prog.info? 5).map (fun i => (i.zero, i.size, i.bytes)) = some (some (.int .u8 0), 1, 1) := by kernel_rfl

theorem or128 (x : Int) : bits .or .u8 (x % 256) 128 = x % 128 + 128 := by
  rw [Lib.u8_or128_any _ (by omega) (by omega)]
  omega

set_option maxRecDepth 10000 in
set_option maxHeartbeats 400000 in
/-- binary.AppendUvarint(b, x), x below 128 -/
theorem auv1 (w : World) (v : Value) (bs : List Int) (x : Int) (B : Nat) (hown : Own w B 5 v bs) (hl : bs.length ≤ 1099511627776) (hB : B ≤ w.heap.size) (hx : 0 ≤ x) (hx2 : x < 128) :
    Calls Try.prog 28 #[v, .int .u64 x] w fun e w' => ∃ v', e = .returned v' ∧ Own w' B 5 v' (bs ++ uv x) ∧ Ap w w' v v' := by
  obtain ⟨i0, hi, hz0, hz1, hz2⟩ := info_parts Try.info5
  rw [uv1 hx2]
  go_enter Try.func28, Try.ntmps28
  go_wp2_with fail
  refine wp_loop_rounds 1 ?_
  rw [rounds_succ]
  go_wp2_with (at_builtin; refine wpList_append_ap _ rfl _ _ 22 rfl B 5 i0 Try.underlying22 hi hz0 hz1 hz2 v bs rfl (hown.alloc _) (some ⟨w.heap.size, 0, none⟩) 1 1 [x] rfl rfl (Src.litAt (by simp) rfl) (fun h => by cases h) (by simp; omega) (by simp; omega) ?_; intro v1 w1 o1 a1)
  go_ret
  exact ⟨v1, rfl, o1, (Ap.alloc w v _).trans a1⟩

set_option maxRecDepth 10000 in
set_option maxHeartbeats 400000 in
theorem auv2 (w : World) (v : Value) (bs : List Int) (x : Int) (B : Nat) (hown : Own w B 5 v bs) (hl : bs.length ≤ 1099511627776) (hB : B ≤ w.heap.size) (hx : 128 ≤ x) (hx2 : x < 16384) :
    Calls Try.prog 28 #[v, .int .u64 x] w fun e w' => ∃ v', e = .returned v' ∧ Own w' B 5 v' (bs ++ uv x) ∧ Ap w w' v v' := by
  obtain ⟨i0, hi, hz0, hz1, hz2⟩ := info_parts Try.info5
  have hor := or128 x
  rw [uv2 hx hx2]
  go_enter Try.func28, Try.ntmps28
  go_wp2_with fail
  refine wp_loop_rounds 2 ?_
  rw [rounds_succ]
  go_wp2_with (at_builtin; refine wpList_append_ap _ rfl (.tmp 7) _ 22 rfl B 5 i0 Try.underlying22 hi hz0 hz1 hz2 v bs rfl (hown.alloc _) (some ⟨w.heap.size, 0, none⟩) 1 1 [x % 128 + 128] rfl rfl (Src.litAt (by simp) rfl) (fun h => by cases h) (by simp; omega) (by simp; omega) ?_; intro v1 w1 o1 a1)
  rw [rounds_succ]
  have A1 := (Ap.alloc w v _).trans a1
  have s1 := A1.grown.size
  clear a1 hown
  go_wp2_with (at_builtin; refine wpList_append_ap _ rfl (.tmp 15) _ 22 rfl B 5 i0 Try.underlying22 hi hz0 hz1 hz2 v1 _ rfl (o1.alloc _) (some ⟨w1.heap.size, 0, none⟩) 1 1 [x / 128] rfl rfl (Src.litAt (by simp) rfl) (fun h => by cases h) (by simp; omega) (by simp; omega) ?_; intro v2 w2 o2 a2)
  go_ret
  exact ⟨v2, rfl, by simpa using o2, A1.trans ((Ap.alloc w1 v1 _).trans a2)⟩

set_option maxRecDepth 10000 in
set_option maxHeartbeats 400000 in
theorem auv3 (w : World) (v : Value) (bs : List Int) (x : Int) (B : Nat) (hown : Own w B 5 v bs) (hl : bs.length ≤ 1099511627776) (hB : B ≤ w.heap.size) (hx : 16384 ≤ x) (hx2 : x ≤ 131072) :
    Calls Try.prog 28 #[v, .int .u64 x] w fun e w' => ∃ v', e = .returned v' ∧ Own w' B 5 v' (bs ++ uv x) ∧ Ap w w' v v' := by
  obtain ⟨i0, hi, hz0, hz1, hz2⟩ := info_parts Try.info5
  have hor := or128 x
  have hor2 := or128 (x / 128)
  rw [uv3 hx]
  go_enter Try.func28, Try.ntmps28
  go_wp2_with fail
  refine wp_loop_rounds 3 ?_
  rw [rounds_succ]
  go_wp2_with (at_builtin; refine wpList_append_ap _ rfl (.tmp 7) _ 22 rfl B 5 i0 Try.underlying22 hi hz0 hz1 hz2 v bs rfl (hown.alloc _) (some ⟨w.heap.size, 0, none⟩) 1 1 [x % 128 + 128] rfl rfl (Src.litAt (by simp) rfl) (fun h => by cases h) (by simp; omega) (by simp; omega) ?_; intro v1 w1 o1 a1)
  rw [rounds_succ]
  have A1 := (Ap.alloc w v _).trans a1
  have s1 := A1.grown.size
  clear a1 hown
  go_wp2_with (at_builtin; refine wpList_append_ap _ rfl (.tmp 7) _ 22 rfl B 5 i0 Try.underlying22 hi hz0 hz1 hz2 v1 _ rfl (o1.alloc _) (some ⟨w1.heap.size, 0, none⟩) 1 1 [x / 128 % 128 + 128] rfl rfl (Src.litAt (by simp) rfl) (fun h => by cases h) (by simp; omega) (by simp; omega) ?_; intro v2 w2 o2 a2)
  rw [rounds_succ]
  have A2 := A1.trans ((Ap.alloc w1 v1 _).trans a2)
  have s2 := A2.grown.size
  clear a2 o1 A1 s1
  go_wp2_with (at_builtin; refine wpList_append_ap _ rfl (.tmp 15) _ 22 rfl B 5 i0 Try.underlying22 hi hz0 hz1 hz2 v2 _ rfl (o2.alloc _) (some ⟨w2.heap.size, 0, none⟩) 1 1 [x / 128 / 128] rfl rfl (Src.litAt (by simp) rfl) (fun h => by cases h) (by simp; omega) (by simp; omega) ?_; intro v3 w3 o3 a3)
  go_ret
  have e3 : x / 128 / 128 = x / 16384 := by omega
  rw [e3] at o3
  exact ⟨v3, rfl, by simpa using o3, A2.trans ((Ap.alloc w2 v2 _).trans a3)⟩

/-- binary.AppendUvarint(b, x) -/
theorem auv (w : World) (v : Value) (bs : List Int) (x : Int) (B : Nat) (hown : Own w B 5 v bs) (hl : bs.length ≤ 1099511627776) (hB : B ≤ w.heap.size) (hx : 0 ≤ x) (hx2 : x ≤ 131072) :
    Calls Try.prog 28 #[v, .int .u64 x] w fun e w' => ∃ v', e = .returned v' ∧ Own w' B 5 v' (bs ++ uv x) ∧ Ap w w' v v' := by
  by_cases h1 : x < 128
  · exact auv1 w v bs x B hown hl hB hx h1
  · by_cases h2 : x < 16384
    · exact auv2 w v bs x B hown hl hB (by omega) h2
    · exact auv3 w v bs x B hown hl hB (by omega) hx2

set_option maxRecDepth 10000 in
set_option maxHeartbeats 400000 in
/-- uvarint.AppendPrefixed(b, field) -/
theorem prefixed (w : World) (v : Value) (bs : List Int) (ao : Option Addr) (n c : Nat) (zs : List Int) (hn : zs.length = n) (B : Nat) (hown : Own w B 5 v bs) (hl : bs.length ≤ 549755813888) (hB : B ≤ w.heap.size)
    (hsrc : Src w ao zs) (hc : ao = none → c = 0) (hap : Apart ao zs v) (hn2 : n ≤ 131072) :
    Calls Try.prog 27 #[v, .slice ao n c] w fun e w' => ∃ v', e = .returned v' ∧ Own w' B 5 v' (bs ++ (uv n ++ zs)) ∧ Ap w w' v v' := by
  obtain ⟨i0, hi, hz0, hz1, hz2⟩ := info_parts Try.info5
  have HN : Hid (zs.length = n) := hn
  have HN2 : Hid (n ≤ 131072) := hn2
  have hnI : (n : Int) ≤ 131072 := by omega
  have HC : Hid (ao = none → c = 0) := hc
  clear hn hn2 hc
  go_enter Try.func27, Try.ntmps27
  go_wp2_with fail
  refine (auv _ v bs n B hown (by omega) hB (by omega) hnI).mono ?_
  rintro e w1 ⟨v1, rfl, o1, a1⟩
  obtain ⟨s1, p1⟩ := Apart.step hsrc hap a1
  have z1 := a1.grown.size
  have hul := uv_length n
  have HU : Hid ((uv n).length ≤ 3) := hul
  clear hsrc hap hown hul
  go_wp2_with (at_builtin; refine wpList_append_ap _ rfl _ _ 22 rfl B 5 i0 Try.underlying22 hi hz0 hz1 hz2 v1 _ rfl o1 ao n c zs rfl HN.out.symm s1 HC.out (by have := HN.out; have := HN2.out; have := HU.out; simp; omega) (by omega) ?_; intro v2 w2 o2 a2)
  go_ret
  exact ⟨v2, rfl, by simpa using o2, a1.trans a2⟩

/-- The bytes of a string. -/
def bytesI (s : ByteArray) : List Int := s.data.toList.map (fun b => (b.toNat : Int))
theorem bytesI_length (s : ByteArray) : (bytesI s).length = s.size := by simp [bytesI]
theorem bytesI_get (s : ByteArray) (k : Nat) (h : k < s.size) : (bytesI s).getD k 0 = (s[k].toNat : Int) := by
  have hk : k < (bytesI s).length := by rw [bytesI_length]; exact h
  rw [List.getD_eq_getElem?_getD, List.getElem?_eq_getElem hk, Option.getD_some]
  simp only [bytesI, List.getElem_map]
  rfl

/-- What '[]byte(s)' has laid, as it is read. -/
theorem Src.ofString (w : World) (s : ByteArray) (cap : Nat) (m : Nat × Nat) : Src (w.alloc (.cells (bytesRow s cap) 5 m)) (some ⟨w.heap.size, 0, none⟩) (bytesI s) := by
  refine ⟨(fun h => by cases h), fun ad hd j hj => ?_⟩
  obtain rfl := Option.some.inj hd
  rw [bytesI_length] at hj
  rw [Addr.add_lit, cell_of_row _ _ _ _ 5 m (heap_alloc_new w _), bytesI_get s j hj]
  have h' : j < s.data.size := hj
  rw [Nat.zero_add, bytesRow, Array.getElem?_append_left (by simpa using h'), Array.getElem?_map, Array.getElem?_eq_getElem h']
  rfl

/-- The encoding of a name. -/
def enc (s : ByteArray) : List Int := uv s.size ++ bytesI s
theorem enc_length (s : ByteArray) : (enc s).length = (uv s.size).length + s.size := by simp [enc, bytesI_length]

theorem Own.drew {w : World} {B : Nat} {e : TypeId} {v : Value} {bs : List Int} (h : Own w B e v bs) : Own w.drew B e v bs := h

theorem srcStr (w : World) (s : ByteArray) (cap : Nat) (m : Nat × Nat) {o : Obj} : Src ((w.alloc o).alloc (.cells (bytesRow s cap) 5 m)).drew (some ⟨w.heap.size + 1, 0, none⟩) (bytesI s) := by
  have := Src.ofString (w.alloc o) s cap m
  rw [World.size_alloc] at this
  exact this

set_option maxRecDepth 10000 in
set_option maxHeartbeats 400000 in
/-- encodePromoteMember(c, b) -/
theorem enc23 (w : World) (cs : Array Value) (s : ByteArray) (hcs : cs[17]? = some (.string s)) (v : Value) (bs : List Int) (B : Nat) (hown : Own w B 5 v bs) (hl : bs.length ≤ 549755813888) (hB : B ≤ w.heap.size) (hs : s.size ≤ 131072) :
    Calls Try.prog 23 #[.agg cs, v] w fun e w' => ∃ v', e = .returned v' ∧ Own w' B 5 v' (bs ++ enc s) ∧ Ap w w' v v' := by
  have hc : (w.alloc (.cells cs 58)).cell? ⟨w.heap.size, 17, none⟩ = some (.string s) := by
    rw [cell_of_row _ _ _ _ 58 (0, 0) (heap_alloc_new w _)]
    exact hcs
  have hcv := fun (wx : World) => run_bytes_of_string (P := Try.prog) wx 9 22 5 s Try.underlying9 Try.underlying22 Try.underlying5
  go_enter Try.func23, Try.ntmps23
  go_wp2_with fail
  have hap : Apart (some ⟨w.heap.size + 1, 0, none⟩) (bytesI s) v := by
    have := apart_lit (hown.alloc (.cells cs 58)) (bytesI s)
    simpa using this
  refine (prefixed _ v bs _ s.size _ (bytesI s) (bytesI_length s) B (((hown.alloc _).alloc _).drew) hl (by simp; omega) (srcStr _ s _ _) (fun h => by cases h) hap hs).mono ?_
  rintro e w1 ⟨v1, rfl, o1, a1⟩
  go_wp2
  go_ret
  exact ⟨v1, rfl, o1, (((Ap.alloc w v _).trans (Ap.alloc _ v _)).trans (Ap.drew _ v)).trans a1⟩

set_option maxRecDepth 10000 in
set_option maxHeartbeats 400000 in
/-- encodeSession(c, b) -/
theorem enc24 (w : World) (cs : Array Value) (s : ByteArray) (hcs : cs[10]? = some (.string s)) (v : Value) (bs : List Int) (B : Nat) (hown : Own w B 5 v bs) (hl : bs.length ≤ 549755813888) (hB : B ≤ w.heap.size) (hs : s.size ≤ 131072) :
    Calls Try.prog 24 #[.agg cs, v] w fun e w' => ∃ v', e = .returned v' ∧ Own w' B 5 v' (bs ++ enc s) ∧ Ap w w' v v' := by
  have hc : (w.alloc (.cells cs 58)).cell? ⟨w.heap.size, 10, none⟩ = some (.string s) := by
    rw [cell_of_row _ _ _ _ 58 (0, 0) (heap_alloc_new w _)]
    exact hcs
  have hcv := fun (wx : World) => run_bytes_of_string (P := Try.prog) wx 9 22 5 s Try.underlying9 Try.underlying22 Try.underlying5
  go_enter Try.func24, Try.ntmps24
  go_wp2_with fail
  have hap : Apart (some ⟨w.heap.size + 1, 0, none⟩) (bytesI s) v := by
    have := apart_lit (hown.alloc (.cells cs 58)) (bytesI s)
    simpa using this
  refine (prefixed _ v bs _ s.size _ (bytesI s) (bytesI_length s) B (((hown.alloc _).alloc _).drew) hl (by simp; omega) (srcStr _ s _ _) (fun h => by cases h) hap hs).mono ?_
  rintro e w1 ⟨v1, rfl, o1, a1⟩
  go_wp2
  go_ret
  exact ⟨v1, rfl, o1, (((Ap.alloc w v _).trans (Ap.alloc _ v _)).trans (Ap.drew _ v)).trans a1⟩

set_option maxRecDepth 10000 in
set_option maxHeartbeats 400000 in
/-- ZZencodePromoteMember(name, session, key, b) -/
theorem enc9 (w : World) (s t : ByteArray) (ak : Option Addr) (nk ck : Nat) (v : Value) (bs : List Int) (B : Nat) (hown : Own w B 5 v bs) (hl : bs.length ≤ 549755813888) (hB : B ≤ w.heap.size) (hs : s.size ≤ 131072) :
    Calls Try.prog 9 #[.string s, .string t, .slice ak nk ck, v] w fun e w' => ∃ v', e = .returned v' ∧ Own w' B 5 v' (bs ++ enc s) ∧ Ap w w' v v' := by
  have HS : Hid (s.size ≤ 131072) := hs
  clear hs
  go_enter Try.func9, Try.ntmps9
  go_wp2_with fail
  refine (enc23 _ _ s rfl v bs B hown hl hB HS.out).mono ?_
  rintro e w1 ⟨v1, rfl, o1, a1⟩
  go_wp2
  go_ret
  exact ⟨v1, rfl, o1, a1⟩

set_option maxRecDepth 10000 in
set_option maxHeartbeats 400000 in
/-- ZZencodeSession(session, b) -/
theorem enc14 (w : World) (s : ByteArray) (v : Value) (bs : List Int) (B : Nat) (hown : Own w B 5 v bs) (hl : bs.length ≤ 549755813888) (hB : B ≤ w.heap.size) (hs : s.size ≤ 131072) :
    Calls Try.prog 14 #[.string s, v] w fun e w' => ∃ v', e = .returned v' ∧ Own w' B 5 v' (bs ++ enc s) ∧ Ap w w' v v' := by
  have HS : Hid (s.size ≤ 131072) := hs
  clear hs
  go_enter Try.func14, Try.ntmps14
  go_wp2_with fail
  refine (enc24 _ _ s rfl v bs B hown hl hB HS.out).mono ?_
  rintro e w1 ⟨v1, rfl, o1, a1⟩
  go_wp2
  go_ret
  exact ⟨v1, rfl, o1, a1⟩
end Go.Proofs.Qxb6614035a
