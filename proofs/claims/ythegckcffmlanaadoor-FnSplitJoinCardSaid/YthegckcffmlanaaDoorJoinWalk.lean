import Derived.Test.YthegckcffmlanaaDoorEnv
namespace Go.Proofs.YthegckcffmlanaaDoor
open Go.RowKit Go.Sort Go.Proofs.YthegckcffmlanaaDoorW.PrintWords
theorem decLen (u : Nat) : (Lib.decDigits u).length ≤ u + 1 := by
  induction u using Nat.strongRecOn with
  | ind u ih =>
    rw [Lib.decDigits]
    by_cases h : u < 10
    · rw [dif_pos h]; simp
    · rw [dif_neg h, List.length_append]
      have := ih (u / 10) (by omega)
      simp only [List.length_singleton]
      omega
theorem itoaLen (n : Int) (h : 0 ≤ n) (h2 : n ≤ 1048576) : (Lib.itoa n).length ≤ 1048577 := by
  unfold Lib.itoa
  rw [if_neg (by omega)]
  have := decLen n.toNat
  omega
set_option maxHeartbeats 400000 in
theorem badRow (n : Int) (w : World) :
    Calls Tryd.prog 24 #[.int .i64 n] w fun e w' => e = .returned (.iface 75 (.pointer (some ⟨w.heap.size, 0, none⟩))) ∧ Below w.heap.size w w' := by
  go_enter Tryd.func24, Tryd.ntmps24
  go_wp2_with (go_at_call 37; refine (errNew _ _).mono ?_; rintro e w' ⟨rfl, hb⟩)
  go_ret
  exact ⟨rfl, hb⟩
/-- What JoinCellName answers: the name, and whether there is no error. -/
def JnR (s : ByteArray) (row : Int) (x : ByteArray) (b : Bool) : Prop :=
  (∃ r, NmR s r false ∧ x = ⟨#[]⟩ ∧ b = false) ∨ (∃ r, NmR s r true ∧ row < 1 ∧ x = ⟨#[]⟩ ∧ b = false) ∨
  (∃ r, NmR s r true ∧ 1 ≤ row ∧ row ≤ 1048576 ∧ (∀ (j : Nat) (c : UInt8), s.data.toList[j]? = some c → c.toNat < 128) ∧
    x = ⟨(Lib.toUpperA s.data.toList).toArray⟩ ++ ⟨(Lib.itoa row).toArray⟩ ∧ b = true)
def JnEnd (x : ByteArray) (b : Bool) (w : World) (e : Ending) (w' : World) : Prop := ∃ v, ErrB b v ∧ e = .returned (.tuple #[.string x, v]) ∧ Below w.heap.size w w'
set_option maxHeartbeats 400000 in
theorem jn18 (s : ByteArray) (row : Int) (x : ByteArray) (b : Bool) (w : World) (hs : s.size ≤ 40) (he : HErr 1 w) (hp : HPow w) (h : JnR s row x b) :
    Calls Tryd.prog 18 #[.string s, .int .i64 row] w (JnEnd x b w) := by
  obtain ⟨a, hc⟩ := he
  have hs2 : s.size ≤ 9223372036854775807 := by omega
  rcases h with ⟨r, hn, rfl, rfl⟩ | ⟨r, hn, hr, rfl, rfl⟩ | ⟨r, hn, hr, hr2, hasc, rfl, rfl⟩
  · have HN := Aside0.mk hn
    clear hn
    go_enter Tryd.func18, Tryd.ntmps18
    go_wp2_with (go_at_call 23; refine (nmAny s r false _ hs2 a hc HN.out).mono ?_; rintro e w1 ⟨v, hv, rfl, hb⟩; obtain ⟨av, rfl⟩ : ∃ a, v = .iface 75 (.pointer (some a)) := hv)
    go_ret2
    exact ⟨_, ⟨_, rfl⟩, rfl, hb⟩
  · have HN := Aside0.mk hn
    clear hn
    go_enter Tryd.func18, Tryd.ntmps18
    go_wp2_with (first | (go_at_call 23; refine (nmAny s r true _ hs2 a hc HN.out).mono ?_; rintro e w1 ⟨v, hv, rfl, hb⟩; obtain rfl : v = .nilIface := hv) | (go_at_call 24; refine (badRow _ _).mono ?_; rintro e w2 ⟨rfl, hb2⟩))
    go_ret2
    exact ⟨_, ⟨_, rfl⟩, rfl, below_step hb hb2⟩
  · have HN := Aside0.mk hn
    have HA := Aside0.mk hasc
    have HP := Aside0.mk hp
    clear hn hasc hp
    have hlen : (Lib.toUpperA s.data.toList).length + (Lib.itoa row).length ≤ 9223372036854775807 := by
      have h1 := itoaLen row (by omega) hr2
      have h2 : (Lib.toUpperA s.data.toList).length = s.size := by unfold Lib.toUpperA; rw [List.length_map, Array.length_toList]; rfl
      omega
    go_enter Tryd.func18, Tryd.ntmps18
    go_wp2_with (fail)
    go_at_call 23; refine (nmAny s r true _ hs2 a hc HN.out).mono ?_; rintro e w1 ⟨v, hv, rfl, hb⟩; obtain rfl : v = .nilIface := hv
    go_wp2_with (fail)
    go_at_call 25; refine (Tryd.strings_ToUpper_ascii s _ (by omega) HA.out).mono ?_; rintro e w2 ⟨rfl, hb2⟩
    go_wp2_with (fail)
    go_at_call 26; refine (Tryd.strconv_Itoa row (by omega) (by omega) _ ((HP.out.later hb).later hb2)).mono ?_; rintro e w3 ⟨rfl, nk, os, rfl⟩
    go_wp2_with (fail)
    go_ret2
    exact ⟨_, rfl, rfl, below_step hb (below_step hb2 (below_grow _ _ _))⟩
set_option maxHeartbeats 400000 in
theorem im8 (s : ByteArray) (row : Int) (x : ByteArray) (b : Bool) (w : World) (hs : s.size ≤ 40) (he : HErr 1 w) (hp : HPow w) (h : JnR s row x b) :
    Calls Tryd.prog 8 #[.string s, .int .i64 row] w fun e w' => e = .returned (.tuple #[.string x, .bool b]) ∧ Below w.heap.size w w' := by
  have HA := Aside0.mk h
  have HE := Aside0.mk he
  have HP := Aside0.mk hp
  clear h he hp
  go_enter Tryd.func8, Tryd.ntmps8
  cases b with
  | true =>
    go_wp2_with (go_at_call 18; refine (jn18 s row x true _ hs HE.out HP.out HA.out).mono ?_; rintro e w' ⟨v, hv, rfl, hb⟩; obtain rfl : v = .nilIface := hv)
    go_quiet (fail)
    go_wp2
    go_ret2
    exact ⟨rfl, pw_below_drewN hb _⟩
  | false =>
    go_wp2_with (go_at_call 18; refine (jn18 s row x false _ hs HE.out HP.out HA.out).mono ?_; rintro e w' ⟨v, hv, rfl, hb⟩; obtain ⟨av, rfl⟩ : ∃ a, v = .iface 75 (.pointer (some a)) := hv)
    go_quiet (fail)
    go_wp2
    go_ret2
    exact ⟨rfl, pw_below_drewN hb _⟩
end Go.Proofs.YthegckcffmlanaaDoor
