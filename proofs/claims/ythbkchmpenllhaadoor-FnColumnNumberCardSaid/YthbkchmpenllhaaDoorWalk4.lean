import Derived.Test.YthbkchmpenllhaaDoorBridge
namespace Go.Proofs.YthbkchmpenllhaaDoor
open Go.RowKit Go.Proofs.YthbkchmpenllhaaDoorW.PrintWords
set_option maxHeartbeats 400000 in
theorem law4_long (s : ByteArray) (w : World) (h : 40 < s.size) (hs : s.size ≤ 9223372036854775807) :
    Calls Tryd.prog 4 #[.string s] w fun e w' => e = .returned (.bool true) ∧ Below w.heap.size w w' := by
  by_cases h2 : 2147483647 < s.size
  · go_enter Tryd.func4, Tryd.ntmps4
    go_wp2
    go_ret
    exact ⟨rfl, Below.refl _ _⟩
  · go_enter Tryd.func4, Tryd.ntmps4
    go_wp2
    go_ret
    exact ⟨rfl, Below.refl _ _⟩
set_option maxHeartbeats 400000 in
theorem law4_yes (s : ByteArray) (w : World) (h : s.size ≤ 40) (a : Addr) (hc : w.cell? ⟨0, 0, none⟩ = some (.iface 41 (.pointer (some a)))) (k : Nat) (v : Int)
    (hk : PFnColumnNumber.spec_ColumnNumber.f k s = some (v, true)) (hR : NmR s v true) :
    Calls Tryd.prog 4 #[.string s] w fun e w' => e = .returned (.bool true) ∧ Below w.heap.size w w' := by
  have HK := Aside0.mk hk
  have HR := Aside0.mk hR
  clear hk hR
  go_enter Tryd.func4, Tryd.ntmps4
  go_wp2_with (first | (go_at_call 8; refine (PFnColumnNumber.spec_ColumnNumber.calls k s v true _ HK.out).mono ?_; rintro e w' ⟨rfl, ⟨nd, rfl⟩⟩) | (go_at_call 9; refine (im9 s v true _ (by omega) a (by simpa using hc) HR.out).mono ?_; rintro e w' ⟨rfl, hb⟩))
  go_ret
  exact ⟨rfl, below_step (pw_below_drewN (Below.refl _ _) _) hb⟩
set_option maxHeartbeats 400000 in
theorem law4_no (s : ByteArray) (w : World) (h : s.size ≤ 40) (a : Addr) (hc : w.cell? ⟨0, 0, none⟩ = some (.iface 41 (.pointer (some a)))) (k : Nat) (v : Int) (r : Int)
    (hk : PFnColumnNumber.spec_ColumnNumber.f k s = some (v, false)) (hR : NmR s r false) :
    Calls Tryd.prog 4 #[.string s] w fun e w' => e = .returned (.bool true) ∧ Below w.heap.size w w' := by
  have HK := Aside0.mk hk
  have HR := Aside0.mk hR
  clear hk hR
  go_enter Tryd.func4, Tryd.ntmps4
  go_wp2_with (first | (go_at_call 8; refine (PFnColumnNumber.spec_ColumnNumber.calls k s v false _ HK.out).mono ?_; rintro e w' ⟨rfl, ⟨nd, rfl⟩⟩) | (go_at_call 9; refine (im9 s r false _ (by omega) a (by simpa using hc) HR.out).mono ?_; rintro e w' ⟨rfl, hb⟩))
  go_ret
  exact ⟨rfl, below_step (pw_below_drewN (Below.refl _ _) _) hb⟩
theorem law4 (s : ByteArray) (w : World) (hs : s.size ≤ 9223372036854775807) (a : Addr) (hc : w.cell? ⟨0, 0, none⟩ = some (.iface 41 (.pointer (some a)))) :
    Calls Tryd.prog 4 #[.string s] w fun e w' => e = .returned (.bool true) ∧ Below w.heap.size w w' := by
  by_cases h : s.size ≤ 40
  · obtain ⟨k, hk⟩ := Plain.specNum s (by omega)
    have hR := Plain.nmR_all s
    by_cases c : Plain.okL 0 (Plain.nm8 s) = true
    · by_cases c2 : 0 < Plain.val 0 (Plain.nm8 s)
      · rw [if_pos c, decide_eq_true c2] at hk
        rw [if_pos ⟨c, c2⟩, c, decide_eq_true c2] at hR
        exact law4_yes s w h a hc k _ hk hR
      · rw [if_pos c, decide_eq_false c2] at hk
        rw [if_neg (fun h => c2 h.2), decide_eq_false c2, Bool.and_false] at hR
        exact law4_no s w h a hc k _ _ hk hR
    · rw [if_neg c] at hk
      rw [if_neg (fun h => c h.1), Bool.eq_false_iff.2 c, Bool.false_and] at hR
      exact law4_no s w h a hc k _ _ hk hR
  · exact law4_long s w (by omega) hs
end Go.Proofs.YthbkchmpenllhaaDoor
