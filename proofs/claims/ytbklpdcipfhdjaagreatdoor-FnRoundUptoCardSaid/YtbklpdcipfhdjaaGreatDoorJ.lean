/- The walk of checkMediaTypeDisposition at a media type. -/
import Derived.Test.YtbklpdcipfhdjaaGreatDoorI
namespace Go.Proofs.YtbklpdcipfhdjaaGreatDoor.J
open Go.RowKit Go.Proofs.YtbklpdcipfhdjaaGreatDoor.A Go.Proofs.YtbklpdcipfhdjaaGreatDoor.C Go.Proofs.YtbklpdcipfhdjaaGreatDoor.D Go.Proofs.YtbklpdcipfhdjaaGreatDoor.E Go.Proofs.YtbklpdcipfhdjaaGreatDoor.I

theorem emp_no {s : ByteArray} (h : 0 < s.size) : s.toList.isEmpty = false := by
  rw [Lib.toList_data]
  have h1 : s.data.toList.length = s.size := by simp
  cases hl : s.data.toList with
  | nil => rw [hl] at h1; simp only [List.length_nil] at h1; omega
  | cons a r => rfl
theorem emp_yes {s : ByteArray} (h : s.size = 0) : s.toList.isEmpty = true := by
  rw [Lib.toList_data]
  have h1 : s.data.toList.length = s.size := by simp
  cases hl : s.data.toList with
  | nil => rfl
  | cons a r => rw [hl] at h1; simp only [List.length_cons] at h1; omega

set_option maxHeartbeats 2000000 in
set_option maxRecDepth 100000 in
theorem check_any (s : ByteArray) (w : World) (hs : s.size ≤ 1099511627776) (h : isType s = true) :
    Calls Tryz.prog 50 #[.string s] w fun e w' => e = .returned .nilIface ∧ Below w.heap.size w w' := by
  have hle := tokS_le s
  have H := Lib.hid h
  clear h
  go_enter Tryz.func50, Tryz.ntmps50
  go_wp2_with fail
  refine (consumeToken_any s w hs).mono ?_
  rintro r w1 ⟨a, b, rfl, ha, hb, q, rfl⟩
  have h0 : 0 < tokS s := by have := H.out; unfold isType at this; simp at this; omega
  have za : a.size = tokS s := by
    have h1 : a.data.toList.length = a.size := by simp
    rw [← h1, ha, List.length_take]; simp; omega
  have zb : b.size = s.size - tokS s := by
    have h1 : b.data.toList.length = b.size := by simp
    rw [← h1, hb, List.length_drop]; simp
  have na : a.toList.isEmpty = false := emp_no (by omega)
  by_cases h1 : tokS s = s.size
  · have nb : b.toList.isEmpty = true := emp_yes (by omega)
    clear ha hb za zb
    go_wp2_with fail
    go_ret
    exact ⟨rfl, rfl, rfl, rfl, Nat.le_refl _, fun _ _ => rfl⟩
  · have hlt : tokS s < s.size := by omega
    obtain ⟨h47, htk⟩ : s[tokS s] = 47 ∧ isTok (s.extract (tokS s + 1) s.size) = true := by
      have := H.out
      unfold isType at this
      simpa [h0, h1, hlt] using this
    have hbe : b = s.extract (tokS s) s.size := by
      apply ByteArray.ext
      apply Array.ext'
      rw [hb, ext_all]
    have nb : b.toList.isEmpty = false := emp_no (by omega)
    have hbb : begins b 47 = true := by
      unfold begins
      rw [Lib.toList_data, ext_cut, hb]
      rw [List.drop_zero, Nat.sub_zero, List.drop_eq_getElem_cons (by simpa using hlt)]
      have : s.data.toList[tokS s]'(by simpa using hlt) = 47 := h47
      rw [this]; rfl
    have hd : (b.extract 1 b.size).data.toList = (s.extract (tokS s + 1) s.size).data.toList := by
      rw [ext_all, ext_all, hb, List.drop_drop]
    have hr : b.extract 1 b.size = s.extract (tokS s + 1) s.size := by
      apply ByteArray.ext
      apply Array.ext'
      exact hd
    obtain ⟨u, hu⟩ : ∃ u, u = b.extract 1 b.size := ⟨_, rfl⟩
    have hu2 : isTok u = true := by rw [hu, hr]; exact htk
    have hus : u.size ≤ 1099511627776 := by rw [hu, ByteArray.size_extract]; omega
    have hut : 0 < u.size ∧ tokS u = u.size := by unfold isTok at hu2; simpa using hu2
    have HB := Lib.hid hbb
    have HU := Lib.hid hu
    clear hbe hbb hd hr hu hu2 ha hb h47 htk
    go_wp2_with fail
    refine (cutPrefix_yes b 47 _ (by omega) (by omega) HB.out).mono ?_
    rintro r w1 ⟨rfl, rfl⟩
    rw [← HU.out]
    go_wp2_with fail
    refine (consumeToken_any u _ hus).mono ?_
    rintro r w1 ⟨c, d, rfl, hc, hd, q2, rfl⟩
    have zc : c.size = u.size := by
      have h1 : c.data.toList.length = c.size := by simp
      rw [← h1, hc, List.length_take, hut.2]; simp
    have zd : d.size = 0 := by
      have h1 : d.data.toList.length = d.size := by simp
      rw [← h1, hd, List.length_drop, hut.2]; simp
    have nc : c.toList.isEmpty = false := emp_no (by omega)
    have nd : d.toList.isEmpty = true := emp_yes zd
    clear hc hd zc zd
    go_wp2_with fail
    go_ret
    exact ⟨rfl, rfl, rfl, rfl, Nat.le_refl _, fun _ _ => rfl⟩

end Go.Proofs.YtbklpdcipfhdjaaGreatDoor.J
