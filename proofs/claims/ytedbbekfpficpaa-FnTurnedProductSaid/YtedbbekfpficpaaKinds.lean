/- Kinds of what lies in memory: numbers and tables of numbers in the program's five forms. -/
import Derived.Test.YtedbbekfpficpaaFloat
import Derived.Test.YtedbbekfpficpaaWWords
import Derived.Test.YtedbbekfpficpaaRows
import Derived.WalkKit
import Derived.WalkSpells
import Derived.WalkLawsBesides
import Derived.Test.YtedbbekfpficpaaWMore
import Derived.Test.YtedbbekfpficpaaWLast
namespace Go.Proofs.Ytedbbekfpficpaa
open Go.RowKit Go.Proofs.YtedbbekfpficpaaW.PrintWords Fl
/-- Cells that hold no rows of their own. -/
def flat {α : Type} (sz : Nat) (enc : α → List Value) (hl : ∀ x, (enc x).length = sz) (h1 : ∀ x, ∀ u ∈ enc x, u.oneCell' = true) : Kd α where
  sz := sz
  E := []
  K := fun _ x cs => cs = enc x
  M := fun _ _ _ x cs => cs = enc x
  K_len := fun h => by rw [h]; exact hl _
  K_one := fun h u hu => by
    rw [h] at hu
    exact h1 _ u hu
  K_below := fun _ h => h
  K_of_M := fun h => h
  M_mono := fun _ h => h
  M_bound := fun h => h
  M_move := fun _ h => h
  M_lower := fun _ h => h
/-- A number, or a table. -/
inductive Hd where
  | num (n : Int)
  | tab
abbrev fl (n : Int) : Value := .float .f64 (F n)
def encI : Hd → List Value
  | .num n => [.int .i64 1, fl n, .string ⟨#[]⟩]
  | .tab => [.int .i64 5, fl 0, .string ⟨#[]⟩]
def encS : Hd → List Value
  | .num n => [.int .i64 1, .int .i64 n, .int .i64 1, .string ⟨#[]⟩]
  | .tab => [.int .i64 5, .int .i64 0, .int .i64 0, .string ⟨#[]⟩]
def encL : Hd → List Value
  | .num n => [.string ⟨#[]⟩, fl n, .string ⟨#[]⟩, .slice none 0 0]
  | .tab => [.string ⟨#[]⟩, fl 0, .string ⟨#[]⟩, .slice none 0 0]
def encR : Hd → List Value
  | .num _ => [.bool false, .string ⟨#[]⟩, .int .u8 1, .pointer none, .pointer none]
  | .tab => [.bool false, .string ⟨#[]⟩, .int .u8 4, .pointer none, .pointer none]
def hdI : Kd Hd := flat 3 encI (by rintro (_ | _) <;> rfl) (by rintro (_ | _) u hu <;> (simp only [encI, List.mem_cons, List.not_mem_nil, or_false] at hu; rcases hu with rfl | rfl | rfl <;> rfl))
def hdS : Kd Hd := flat 4 encS (by rintro (_ | _) <;> rfl) (by rintro (_ | _) u hu <;> (simp only [encS, List.mem_cons, List.not_mem_nil, or_false] at hu; rcases hu with rfl | rfl | rfl | rfl <;> rfl))
def hdL : Kd Hd := flat 4 encL (by rintro (_ | _) <;> rfl) (by rintro (_ | _) u hu <;> (simp only [encL, List.mem_cons, List.not_mem_nil, or_false] at hu; rcases hu with rfl | rfl | rfl | rfl <;> rfl))
def hdR : Kd Hd := flat 5 encR (by rintro (_ | _) <;> rfl) (by rintro (_ | _) u hu <;> (simp only [encR, List.mem_cons, List.not_mem_nil, or_false] at hu; rcases hu with rfl | rfl | rfl | rfl | rfl <;> rfl))
/-- Values of a type whose element types are 'r' (a row) and 'e' (an element of a row), the elements of kind 'd'. -/
abbrev Ob (β : Type) := Hd × List (List β)
def kS {β : Type} (d : Kd β) : Kd (Ob β) := Kd.pair hdS (Kd.slice 40 (Kd.slice 25 d))
def kI {β : Type} (d : Kd β) : Kd (Ob β) := Kd.pair hdI (Kd.slice 34 (Kd.slice 30 d))
def kA {β : Type} (d : Kd β) : Kd (Ob β) := Kd.pair hdI (Kd.slice 48 (Kd.slice 46 d))
def kF {β : Type} (d : Kd β) : Kd (Ob β) := Kd.iso (Kd.pair hdL (Kd.pair (Kd.slice 53 (Kd.slice 58 d)) hdR)) (fun x => (x.1, x.2, x.1))
abbrev Nu := Ob Unit
abbrev Ta := Ob Nu
def nothing (sz : Nat) : Kd Unit := flat sz (fun _ => List.replicate sz (.bool false)) (fun _ => by simp) (fun _ u hu => by rw [List.eq_of_mem_replicate hu]; rfl)
def nS : Kd Nu := kS (nothing 5)
def nI : Kd Nu := kI (nothing 4)
def nA : Kd Nu := kA (nothing 4)
def nF : Kd Nu := kF (nothing 10)
def tS : Kd Ta := kS nS
def tI : Kd Ta := kI nI
def tA : Kd Ta := kA nA
def tF : Kd Ta := kF nF
def nu (n : Int) : Nu := (.num n, [])
def ta (m : List (List Int)) : Ta := (.tab, m.map (·.map nu))
theorem feq {a b : Int} (ha : a.natAbs < 2 ^ 53) (hb : b.natAbs < 2 ^ 53) : (FloatKind.f64.format.order (F a) (F b) == some Ordering.eq) = decide (a = b) := order_F ha hb
theorem fne {a b : Int} (ha : a.natAbs < 2 ^ 53) (hb : b.natAbs < 2 ^ 53) : (FloatKind.f64.format.order (F a) (F b) != some Ordering.eq) = !decide (a = b) := by
  have h : (FloatKind.f64.format.order (F a) (F b) != some Ordering.eq) = !(FloatKind.f64.format.order (F a) (F b) == some Ordering.eq) := rfl
  rw [h, feq ha hb]
theorem run_store_float (P : Program) (w : World) (a : Addr) (m : Mode) (k : FloatKind) (b : Nat) : (store a (.float k b) m).run P w = stored P w a (.float k b) m := run_store P w a _ m rfl
theorem blk_at {w : World} {o : Obj} {g : Nat} (h : g = w.heap.size) : (w.alloc o).heap[g]? = some o := by subst h; exact heap_alloc_new w o
theorem bel {B : Nat} {w W : World} (h : Below B w W) (o : Obj) (hB : B ≤ W.heap.size) : Below B w (W.alloc o) := h.alloc hB o
end Go.Proofs.Ytedbbekfpficpaa
