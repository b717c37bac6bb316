import Derived.Test.YtedbbekfpficpaaIList
set_option linter.unusedSimpArgs false
set_option linter.unusedVariables false
namespace Go.Proofs.Ytedbbekfpficpaa
open Go.RowKit Go.Proofs.YtedbbekfpficpaaW.PrintWords Go.Proofs.YtedbbekfpficpaaW.PrintLast Fl
/-- A table of at most 100 rows and columns, its numbers exact as floats. -/
def Fits (m : List (List Int)) : Prop := m.length ≤ 100 ∧ (∀ r ∈ m, r.length ≤ 100) ∧ ∀ r ∈ m, ∀ x ∈ r, x.natAbs < 2 ^ 53
theorem mapId {α : Type} (xs : List α) : xs.map id = xs := by simp
theorem mapMapId {α : Type} (xs : List (List α)) : xs.map (·.map id) = xs := by simp
theorem ta_rows (m : List (List Int)) : ta m = (Hd.tab, m.map (·.map nu)) := rfl
theorem ta_len (m : List (List Int)) : (ta m).2.length = m.length := by simp [ta]
theorem flatNum {β : Type} {a b c : List Value} {n : Nat} {x : Value} (h : a = b) : a = b := h
theorem made_nI (n : Int) (w w' : World) (h : Below w.heap.size w w') : Made nI (nu n) w (.returned (.agg #[.int .i64 1, fl n, .string ⟨#[]⟩, .slice none 0 0])) w' :=
  ⟨[.int .i64 1, fl n, .string ⟨#[]⟩, .slice none 0 0], rfl, ⟨_, [.slice none 0 0], rfl, rfl, _, rfl, Kd.R_nil _ _ _ _ _⟩, h⟩
theorem made_nA (n : Int) (w w' : World) (h : Below w.heap.size w w') : Made nA (nu n) w (.returned (.agg #[.int .i64 1, fl n, .string ⟨#[]⟩, .slice none 0 0])) w' :=
  ⟨[.int .i64 1, fl n, .string ⟨#[]⟩, .slice none 0 0], rfl, ⟨_, [.slice none 0 0], rfl, rfl, _, rfl, Kd.R_nil _ _ _ _ _⟩, h⟩
theorem cellsS_num (w : World) (n : Int) (cs : List Value) (h : nS.K w (nu n) cs) : ∃ A k c, cs = [.int .i64 1, .int .i64 n, .int .i64 1, .string ⟨#[]⟩, .slice A k c] := by
  obtain ⟨ca, cb, rfl, hca, A1, cc, rfl, hlr, hR⟩ := h
  have hca' : ca = [.int .i64 1, .int .i64 n, .int .i64 1, .string ⟨#[]⟩] := hca
  subst hca'
  exact ⟨_, _, _, rfl⟩
theorem cellsS_tab (w : World) (m : List (List Int)) (cs : List Value) (h : tS.K w (ta m) cs) : ∃ A c, cs = [.int .i64 5, .int .i64 0, .int .i64 0, .string ⟨#[]⟩, .slice A m.length c] ∧ (Kd.slice 25 nS).C w A m.length (m.map (·.map nu)) := by
  obtain ⟨ca, cb, rfl, hca, A1, cc, rfl, hlr, hR⟩ := h
  have hca' : ca = [.int .i64 5, .int .i64 0, .int .i64 0, .string ⟨#[]⟩] := hca
  subst hca'
  rw [ta_len] at hR ⊢
  exact ⟨A1, cc, rfl, hR⟩
theorem ofNum' (n : Int) (h : n.natAbs < 2 ^ 53) (cs : List Value) (w : World) (hK : nS.K w (nu n) cs) : Calls Try.prog 8 #[.agg cs.toArray] w (Made nI (nu n) w) := by
  obtain ⟨A, k, c, rfl⟩ := cellsS_num w n cs hK
  refine (ofNum n h A k c w).mono ?_
  rintro e w' ⟨rfl, hb⟩
  exact made_nI n w w' hb
theorem allNums (r : List Int) (hl : r.length ≤ 100) (hr : ∀ x ∈ r, x.natAbs < 2 ^ 53) (A : Option Addr) (c : Nat) (w : World) (hC : nS.C w A r.length (r.map nu)) : Calls Try.prog 18 #[.slice A r.length c] w (MadeRow nI 30 (r.map nu) w) := by
  have h := all_ nS nI id rfl rfl (r.map nu) (by simpa using hl) (fun x hx cs w hK => by
    obtain ⟨n, hn, rfl⟩ := List.mem_map.1 hx
    exact ofNum' n (hr n hn) cs w hK) A c w (by simpa using hC)
  rw [mapId, List.length_map] at h
  exact h
theorem ofTable (m : List (List Int)) (hm : Fits m) (cs : List Value) (w : World) (hK : tS.K w (ta m) cs) : Calls Try.prog 8 #[.agg cs.toArray] w (Made tI (ta m) w) := by
  obtain ⟨A, c, rfl, hC⟩ := cellsS_tab w m cs hK
  have h := ofTab nS nI id (m.map (·.map nu)) (by simpa using hm.1) (fun r hr A c w hC => by
    obtain ⟨q, hq, rfl⟩ := List.mem_map.1 hr
    rw [mapId]
    simp only [List.length_map] at hC ⊢
    exact allNums q (hm.2.1 q hq) (hm.2.2 q hq) A c w hC) A c w (by simpa using hC)
  rw [mapMapId, List.length_map] at h
  exact h
theorem allTables (ts : List (List (List Int))) (hl : ts.length ≤ 100) (hm : ∀ m ∈ ts, Fits m) (A : Option Addr) (c : Nat) (w : World) (hC : tS.C w A ts.length (ts.map ta)) : Calls Try.prog 18 #[.slice A ts.length c] w (MadeRow tI 30 (ts.map ta) w) := by
  have h := all_ tS tI id rfl rfl (ts.map ta) (by simpa using hl) (fun x hx cs w hK => by
    obtain ⟨m, hm', rfl⟩ := List.mem_map.1 hx
    exact ofTable m (hm m hm') cs w hK) A c w (by simpa using hC)
  rw [mapId, List.length_map] at h
  exact h
theorem idOb {β : Type} (ps : List (Ob β)) : ps.map (fun p => (p.1, p.2.map (·.map id))) = ps := by
  simp
theorem inNums (r : List Int) (hl : r.length ≤ 100) (A : Option Addr) (c : Nat) (w : World) (hC : nI.C w A r.length (r.map nu)) : Calls Try.prog 17 #[.slice A r.length c] w (MadeRow nA 46 (r.map nu) w) := by
  have h := in_ (nothing 4) (nothing 4) id (r.map nu) (by simpa using hl) (fun p hp => by
    obtain ⟨n, _, rfl⟩ := List.mem_map.1 hp
    simp [nu]) (fun p hp q hq => by
    obtain ⟨n, _, rfl⟩ := List.mem_map.1 hp
    simp [nu] at hq) A c w (by rw [List.length_map]; exact hC)
  rw [idOb, List.length_map] at h
  exact h
theorem inTables (ts : List (List (List Int))) (hl : ts.length ≤ 100) (hm : ∀ m ∈ ts, Fits m) (A : Option Addr) (c : Nat) (w : World) (hC : tI.C w A ts.length (ts.map ta)) : Calls Try.prog 17 #[.slice A ts.length c] w (MadeRow tA 46 (ts.map ta) w) := by
  have h := in_ nI nA id (ts.map ta) (by simpa using hl) (fun p hp => by
    obtain ⟨m, hm', rfl⟩ := List.mem_map.1 hp
    rw [ta_len]; exact (hm m hm').1) (fun p hp q hq A c w hC => by
    obtain ⟨m, hm', rfl⟩ := List.mem_map.1 hp
    obtain ⟨r, hr, rfl⟩ := List.mem_map.1 hq
    rw [mapId]
    simp only [List.length_map] at hC ⊢
    exact inNums r ((hm m hm').2.1 r hr) A c w hC) A c w (by rw [List.length_map]; exact hC)
  rw [idOb, List.length_map] at h
  exact h
theorem anyA {β : Type} (d : Kd β) (n : Int) (cs : List Value) (w : World) (h : nA.K w (nu n) cs) : (kA d).K w (.num n, []) cs := by
  obtain ⟨ca, cb, rfl, hca, A1, cc, rfl, hlr, hR⟩ := h
  exact ⟨ca, _, rfl, hca, A1, cc, rfl, hlr, rfl, hR.2.1, fun h => absurd h (by simp)⟩
theorem anyI {β : Type} (d : Kd β) (n : Int) (cs : List Value) (w : World) (B : Nat) (ok : Nat → Prop) (h : (kI d).M w B ok (.num n, []) cs) : nI.M w B ok (nu n) cs := by
  obtain ⟨ca, cb, rfl, hca, v, rfl, h0, inner, ho, hr⟩ := h
  exact ⟨ca, _, rfl, hca, v, rfl, h0, inner, ho, hr.1, fun j p hj => by simp [nu] at hj⟩
theorem outNum (n : Int) (cs : List Value) (w : World) (hK : nA.K w (nu n) cs) : Calls Try.prog 15 #[.agg cs.toArray] w (Made nI (nu n) w) := by
  refine (out_ nA nI id rfl rfl (shapeA _) (shapeI _) (.num n) [] (by simp) (by simp) (by simp) cs w (anyA _ n cs w hK)).mono ?_
  rintro e w' ⟨cs', rfl, hM, hb⟩
  exact ⟨cs', rfl, anyI _ n cs' w' _ _ hM, hb⟩
theorem outTable (m : List (List Int)) (hm : Fits m) (cs : List Value) (w : World) (hK : tA.K w (ta m) cs) : Calls Try.prog 15 #[.agg cs.toArray] w (Made tI (ta m) w) := by
  have h := out_ nA nI id rfl rfl (shapeA _) (shapeI _) .tab (m.map (List.map nu)) (by simpa using hm.1) (fun r hr => by
    obtain ⟨q, hq, rfl⟩ := List.mem_map.1 hr
    simpa using hm.2.1 q hq) (fun r hr x hx cs w hK => by
    obtain ⟨q, hq, rfl⟩ := List.mem_map.1 hr
    obtain ⟨n, hn, rfl⟩ := List.mem_map.1 hx
    exact outNum n cs w hK) cs w hK
  rw [mapMapId] at h
  exact h
theorem cellsF_num (w : World) (n : Int) (cs : List Value) (h : nF.K w (nu n) cs) : ∃ A k c, cs = [.string ⟨#[]⟩, fl n, .string ⟨#[]⟩, .slice none 0 0, .slice A k c, .bool false, .string ⟨#[]⟩, .int .u8 1, .pointer none, .pointer none] := by
  obtain ⟨A, k, c, h⟩ := cellsNum (nothing 10) w (nu n) cs h rfl
  exact ⟨A, k, c, h⟩
theorem doorNum' (n : Int) (cs : List Value) (w : World) (hK : nF.K w (nu n) cs) : Calls Try.prog 21 #[.agg cs.toArray] w (Made nA (nu n) w) := by
  obtain ⟨A, k, c, rfl⟩ := cellsF_num w n cs hK
  refine (doorNum n A k c w).mono ?_
  rintro e w' ⟨rfl, hb⟩
  exact made_nA n w w' hb
theorem doorTable (m : List (List Int)) (hm : Fits m) (cs : List Value) (w : World) (hK : tF.K w (ta m) cs) : Calls Try.prog 21 #[.agg cs.toArray] w (Made tA (ta m) w) := by
  have h := doorTab nF nA id (m.map (List.map nu)) (fun A c w hC => doorRows_ nF nA id rfl rfl (shapeF _) (shapeA _) (m.map (List.map nu)) (by simpa using hm.1) (fun r hr => by
    obtain ⟨q, hq, rfl⟩ := List.mem_map.1 hr
    simpa using hm.2.1 q hq) (fun r hr x hx cs w hK => by
    obtain ⟨q, hq, rfl⟩ := List.mem_map.1 hr
    obtain ⟨n, hn, rfl⟩ := List.mem_map.1 hx
    exact doorNum' n cs w hK) A c w hC) cs w hK
  rw [mapMapId] at h
  exact h
end Go.Proofs.Ytedbbekfpficpaa
