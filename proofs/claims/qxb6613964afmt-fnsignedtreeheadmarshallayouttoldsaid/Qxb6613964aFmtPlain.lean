import Derived.Test.Qxb6613964aFmtMarsh
namespace Go.Proofs.Qxb6613964aFmt

theorem be64_inj {x y : Int} (h : be64 x = be64 y) : x = y := by
  simp only [be64, List.cons.injEq, and_true] at h
  omega

theorem headBytes_inj {ts ts' sz sz' : Int} {r r' : List Int} 
    (h : headBytes ts sz r = headBytes ts' sz' r') : ts = ts' ∧ sz = sz' ∧ r = r' := by
  unfold headBytes at h
  obtain ⟨h, _⟩ := List.append_inj' h rfl
  obtain ⟨h, h5⟩ := List.append_inj h (by simp [be64_length])
  obtain ⟨h6, h7⟩ := List.append_inj h (by simp [be64_length])
  simp only [List.cons.injEq, true_and] at h5
  exact ⟨be64_inj h6, be64_inj h7, h5⟩

theorem itemBytes_inj {id id' sg sg' : List Int} {ts ts' sz sz' : Int} {r r' : List Int} (hr : r.length = 32) (hr' : r'.length = 32)
    (h : itemBytes id ts sz r sg = itemBytes id' ts' sz' r' sg') : id = id' ∧ ts = ts' ∧ sz = sz' ∧ r = r' ∧ sg = sg' := by
  unfold itemBytes at h
  simp only [List.cons_append, List.nil_append, List.append_assoc, List.cons.injEq, true_and] at h
  obtain ⟨hl, h⟩ := h
  have hl' : id.length = id'.length := by omega
  obtain ⟨e1, h⟩ := List.append_inj h hl'
  obtain ⟨e2, h⟩ := List.append_inj h (by rw [headBytes_length _ _ _ hr, headBytes_length _ _ _ hr'])
  obtain ⟨e3, e4, e5⟩ := headBytes_inj e2
  simp only [List.cons.injEq] at h
  exact ⟨e1, e3, e4, e5, h.2.2⟩

theorem itemBytes_length (id sg : List Int) (ts sz : Int) (r : List Int) (hr : r.length = 32) : (itemBytes id ts sz r sg).length = 56 + id.length + sg.length := by
  unfold itemBytes
  simp [headBytes_length _ _ _ hr]
  omega
end Go.Proofs.Qxb6613964aFmt
