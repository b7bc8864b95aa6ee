/-
  append(block, b...) in place.
-/
import Derived.Test.YbulkaymsNew
import Derived.ArgAppend
namespace Go.Proofs.Ybulkayms.Cnt
open Go.RowKit

/-- 'append(block, b...)' where there is room: in place. -/
theorem app_room {w : World} {g n cap : Nat} {xs : List Value} (hown : w.ownsRow g 5 1 (.slice (some ⟨g, 0, none⟩) n cap) n xs) (ao : Option Addr) (c : Nat) (jb : List UInt8) (hs : Hold8 w ao jb) (hnil : ao = none → jb.length = 0 ∧ c = 0) (hn : n + jb.length ≤ 100000) (hroom : n + jb.length ≤ cap) :
    ∃ w', (Builtin.append_ #[26, 26] 26 #[.slice (some ⟨g, 0, none⟩) n cap, .slice ao jb.length c]).run Yba.prog w = .ok (.slice (some ⟨g, 0, none⟩) (n + jb.length) cap) w' ∧ w'.ownsRow g 5 1 (.slice (some ⟨g, 0, none⟩) (n + jb.length) cap) (n + jb.length) (xs ++ Go.Lib.byteCells jb) ∧ w.grownBy w' (some g) := by
  obtain ⟨i, hi, hz0, hz1, hz2⟩ := info_parts info5
  have hlt := (hown.lt g rfl).2
  cases ao with
  | none =>
    obtain ⟨h0, rfl⟩ := hnil rfl
    obtain rfl : jb = [] := List.eq_nil_of_length_eq_zero h0
    exact ⟨w, run_append_owned_none (P := Yba.prog) w g 26 26 5 i 1 Yba.underlying26 hi _ n xs hown, by simpa [Go.Lib.byteCells] using hown, ⟨rfl, rfl, rfl, Nat.le_refl _, fun _ _ _ => rfl⟩⟩
  | some a =>
    have hnews : ∀ j u, (Go.Lib.byteCells jb)[j]? = some u → w.cell? (a.add j) = some u := by
      intro j u hu
      have hj : j < jb.length := by
        have := (List.getElem?_eq_some_iff.1 hu).1
        simpa [Go.Lib.byteCells] using this
      obtain ⟨b, o, e, cc⟩ := hs j hj
      cases e
      rw [Go.WideShapes.add_plain, cc]
      simp [Go.Lib.byteCells, hj] at hu
      rw [← hu]
    have hone : ∀ u ∈ Go.Lib.byteCells jb, u.oneCell' = true := by
      intro u hu
      simp only [Go.Lib.byteCells, List.mem_map] at hu
      obtain ⟨b, _, rfl⟩ := hu
      rfl
    have hlen : (Go.Lib.byteCells jb).length = jb.length := by simp [Go.Lib.byteCells]
    obtain ⟨v', w', hrun, h1, h2, h3⟩ := run_append_own (P := Yba.prog) w g 26 26 5 i (.int .u8 0) 1 1 Yba.underlying26 hi hz0 hz1 hz2 rfl (by omega) _ n xs hown a jb.length c (Go.Lib.byteCells jb) (by simp [Go.Lib.byteCells]) hnews hone (by unfold maxLen; omega) (by omega) (by omega)
    obtain ⟨_, hv | ⟨g', cap', cur, hv, _, hg, _, _, hcur, _⟩⟩ := hown
    · cases hv.1
    · cases hv
      have hr2 := run_append_room_cells (P := Yba.prog) w 26 26 5 i Yba.underlying26 hi g 0 n cap a jb.length c (Go.Lib.byteCells jb) (by rw [hz1]; simp [Go.Lib.byteCells]) hnews hone hroom (fun j hj => by
        rw [hz1]
        simp only [World.cell?, hg]
        simp
        omega) (fun j hj => by
        simp only [World.frozen?, hg]
        simp)
      rw [hr2] at hrun
      cases hrun
      exact ⟨_, hr2, h1, h2⟩
end Go.Proofs.Ybulkayms.Cnt
