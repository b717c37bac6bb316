import Derived.Test.YthegckcffmlanaaDoorNames
import Derived.Test.YthegckcffmlanaaDoorShelf
import Derived.WalkSmall
namespace Go.Proofs.YthegckcffmlanaaDoor
open Go.RowKit Go.Sort Go.Proofs.YthegckcffmlanaaDoorW.PrintWords
/-- The cell of a listed error stays. -/
theorem kept {w W : World} {g : Nat} {v : Value} (hb : Below w.heap.size w W) (hc : w.cell? ⟨g, 0, none⟩ = some v) : W.cell? ⟨g, 0, none⟩ = some v :=
  (hb.cell (World.block_lt_of_cell? _ _ hc)).trans hc
/-- A variable that holds an error. -/
def HErr (g : Nat) (w : World) : Prop := ∃ a, w.cell? ⟨g, 0, none⟩ = some (.iface 75 (.pointer (some a)))
theorem HErr.later {g : Nat} {w W : World} (h : HErr g w) (hb : Below w.heap.size w W) : HErr g W := by
  obtain ⟨a, ha⟩ := h
  exact ⟨a, kept hb ha⟩
/-- The two tables of unicode/utf8. -/
def HTabs (w : World) : Prop := Lib.Utf8Tabs 6 7 w
theorem cell_stays {w W : World} {a : Addr} {v : Value} (hb : Below w.heap.size w W) (hc : w.cell? a = some v) : W.cell? a = some v :=
  (hb.cell (World.block_lt_of_cell? _ _ hc)).trans hc
theorem HTabs.later {w W : World} (h : HTabs w) (hb : Below w.heap.size w W) : HTabs W :=
  ⟨fun c hc => cell_stays hb (h.1 c hc), fun i hi => ⟨cell_stays hb (h.2 i hi).1, cell_stays hb (h.2 i hi).2⟩⟩
/-- The powers of ten. -/
def HPow (w : World) : Prop := Lib.TabIs Tryd.prog w "internal/strconv.uint64pow10" .u64 Lib.pow10Tab
theorem gPow : Tryd.prog.globalNamed "internal/strconv.uint64pow10" = some 8 := by kernel_rfl
theorem HPow.later {w W : World} (h : HPow w) (hb : Below w.heap.size w W) : HPow W := by
  unfold HPow Lib.TabIs at *
  have hc := World.var?_cell gPow h 0
  have hc1 : w.cell? ⟨8, 0, none⟩ = some (.int .u64 1) := by rw [hc]; rfl
  have hlt : (8 : Nat) < w.heap.size := World.block_lt_of_cell? _ _ hc1
  exact var?_below hb gPow hlt h
theorem below_grow (w : World) (k : Nat) (os : Array Obj) : Below w.heap.size w (grow (w.drewN k) os) :=
  ⟨rfl, rfl, rfl, by show w.heap.size ≤ (w.heap ++ os).size; rw [Array.size_append]; omega, fun j hj => by
    show (w.heap ++ os)[j]? = w.heap[j]?
    rw [Array.getElem?_append_left hj]⟩
theorem below_bytes (w : World) (t : ByteArray) : Below w.heap.size w (Lib.bytesWorld w 5 t) :=
  ⟨rfl, rfl, rfl, by simp [Lib.bytesWorld, World.freeze], fun k hk => by
    unfold Lib.bytesWorld World.freeze
    rw [if_neg (by decide : ¬ (1 = 0))]
    show ((w.drew.alloc (.cells (Lib.bytesCells w 5 t) 5)).heap.modify w.heap.size _)[k]? = _
    rw [Array.getElem?_modify, if_neg (by omega)]
    exact Below.heap_alloc w.drew _ _ hk⟩
/-- strconv.Atoi where the text is a numeral of an int. -/
theorem atoi_good (s : ByteArray) (hmax : s.size ≤ 40) (v : Int) (h : Lib.atoiAll s.data.toList = .ok v) (w : World) :
    Calls Tryd.prog 34 #[.string s] w fun e w' => e = .returned (.tuple #[.int .i64 v, .nilIface]) ∧ Below w.heap.size w w' :=
  (Tryd.strconv_Atoi_ok s (by omega) v h w).mono fun e w' ⟨he, hw⟩ => ⟨he, by
    rcases hw with rfl | ⟨t, rfl⟩
    · exact Below.refl _ _
    · exact below_bytes _ _⟩
/-- strconv.Atoi where it is none: an error. -/
theorem atoi_bad (s : ByteArray) (hmax : s.size ≤ 40) (h : ∀ v, Lib.atoiAll s.data.toList ≠ .ok v) (w : World) (h3 : HErr 3 w) (h4 : HErr 4 w) :
    Calls Tryd.prog 34 #[.string s] w fun e w' => ∃ n N, e = .returned (.tuple #[.int .i64 n, .iface 89 (.pointer (some ⟨N, 0, none⟩))]) ∧ Below w.heap.size w w' := by
  obtain ⟨a3, c3⟩ := h3
  obtain ⟨a4, c4⟩ := h4
  cases hx : Lib.atoiAll s.data.toList with
  | ok v => exact absurd hx (h v)
  | range => exact (Any.strconv_Atoi_range Tryd.laysC172 s (by omega) hx _ w c4 (Or.inr ⟨_, _, rfl⟩)).mono fun e w' ⟨N, he, _, _, hb⟩ => ⟨_, N, he, hb⟩
  | _ => exact (Any.strconv_Atoi_syntax Tryd.laysC172 s (by omega) hx _ w c3 (Or.inr ⟨_, _, rfl⟩)).mono fun e w' ⟨N, he, _, _, hb⟩ => ⟨_, N, he, hb⟩
end Go.Proofs.YthegckcffmlanaaDoor
