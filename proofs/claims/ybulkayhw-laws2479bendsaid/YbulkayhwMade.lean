/-
  zzs2479bbuild: the intake, the busy caches and the map that the law builds; atomic.Bool's Store and Load.
-/
import Derived.Test.YbulkayhwRows
import Derived.Test.YbulkayhwLocks
import Derived.WalkKit
import Derived.WalkSpells
import Derived.WalkLawsBesides
import Derived.Maps.OwnSet
import Derived.BigQuiet
import Derived.Deep.QuietTactic
import Derived.Deep.RegionHeld3
import Derived.Deep.Light
namespace Go.Proofs.Ybulkayhw.Fin
open Go.RowKit Go.Maps Go.MuLone Go.ChangeMaps Go.WideMaps

theorem hid {p : Prop} (h : p) : Hid p := h
theorem law9 : Keyed Yba.prog 9 := string_keyed Yba.underlying9
theorem zero4 (w : World) : (zeroValue 4).run Yba.prog w = .ok (.bool false) w := by kernel_rfl

/-- What the key of a string is. -/
def kl (s : ByteArray) : Lit := .string s.data.toList
theorem key_mk {s : ByteArray} (hs : s.size ≤ maxLen) : keyOf Yba.prog 9 (.string s) = some (kl s) := keyOf_string_mk Yba.underlying9 hs
theorem kl_inj {a b : ByteArray} (h : kl a = kl b) : a = b := by
  unfold kl at h
  have h1 : a.data.toList = b.data.toList := by simpa using h
  have h2 : a.data = b.data := Array.toList_inj.1 h1
  cases a; cases b; simp_all

/-- the map in block b reads as D -/
def Mp (w : World) (b n : Nat) (D : DataW Unit) : Prop := w.ownsMap Yba.prog 9 (plainElem Yba.prog 4) b n D

/-- How a bool lies in an atomic.Bool. -/
def tk (b : Bool) : Int := if b then 1 else 0

theorem store_any (a : Addr) (x : Value) (v : Bool) (w : World) (hc : w.cell? a = some x) (hz : w.frozen? a = false) :
    Calls Yba.prog 15 #[.pointer (some a), .bool v] w fun e w' => e = .returned (.tuple #[]) ∧ w' = (w.setCell a (.int .u32 (tk v))).drew := by
  have hc' : w.drew.cell? a = some x := by go_simp
  have hz' : w.drew.frozen? a = false := by go_simp
  cases v
  · have hst := run_call_store (P := Yba.prog) Yba.func19 (by kernel_rfl) (by kernel_rfl) (by kernel_rfl) (by kernel_rfl) (k := .u32) (y := 0) hc' hz'
    go_enter Yba.func15, Yba.ntmps15
    go_wp2
    go_region_calls
    all_goals (go_end0; exact ⟨rfl, rfl⟩)
  · have hst := run_call_store (P := Yba.prog) Yba.func19 (by kernel_rfl) (by kernel_rfl) (by kernel_rfl) (by kernel_rfl) (k := .u32) (y := 1) hc' hz'
    go_enter Yba.func15, Yba.ntmps15
    go_wp2
    go_region_calls
    all_goals (go_end0; exact ⟨rfl, rfl⟩)

theorem load_any (a : Addr) (v : Bool) (w : World) (hc : w.cell? a = some (.int .u32 (tk v))) :
    Calls Yba.prog 14 #[.pointer (some a)] w fun e w' => e = .returned (.bool v) ∧ w' = w := by
  cases v
  · have hl := run_call_load (P := Yba.prog) Yba.func18 (by kernel_rfl) (by kernel_rfl) (by kernel_rfl) .u32 (by kernel_rfl) hc
    go_enter Yba.func14, Yba.ntmps14
    go_wp2
    go_ret
    exact ⟨rfl, rfl⟩
  · have hl := run_call_load (P := Yba.prog) Yba.func18 (by kernel_rfl) (by kernel_rfl) (by kernel_rfl) .u32 (by kernel_rfl) hc
    go_enter Yba.func14, Yba.ntmps14
    go_wp2
    go_ret
    exact ⟨rfl, rfl⟩

/-- The intake that the law builds. -/
structure Made (w : World) (addr : ByteArray) (trial taken : Bool) (n : Nat) (D : DataW Unit) (w' : World) : Prop where
  map : Mp w' w.heap.size n D
  busy : w'.heap[w.heap.size + 1]? = some (.cells #[.int .i32 0, .int .u32 0, .map (some w.heap.size)] 56 (0, 0))
  intake : w'.heap[w.heap.size + 2]? = some (.cells #[.pointer (some ⟨w.heap.size + 1, 0, none⟩), .string addr, .bool trial, .pointer none, .int .u32 (tk taken)] 49 (0, 0))
  below : Below w.heap.size w w'

theorem turned_size {w w' : World} {b : Nat} (h : w.mapTurned w' b) : w'.heap.size = w.heap.size := by
  obtain ⟨es, clock, es', clock', hb, rfl⟩ := h
  simp [setBlock]

theorem made_of {w w1 : World} {addr : ByteArray} {trial : Bool} {n : Nat} {D : DataW Unit} (taken : Bool) (hm : Mp w1 w.heap.size n D) (hs : w1.heap.size = w.heap.size + 1) (hb : Below w.heap.size w w1) :
    Made w addr trial taken n D (((w1.alloc (.cells #[.int .i32 0, .int .u32 0, .map (some w.heap.size)] 56)).alloc (.cells #[.pointer (some ⟨w.heap.size + 1, 0, none⟩), .string addr, .bool trial, .pointer none, .int .u32 (tk taken)] 49)).drew) := by
  have n1 := heap_alloc_new w1 (.cells #[.int .i32 0, .int .u32 0, .map (some w.heap.size)] 56)
  have n2 := heap_alloc_new (w1.alloc (.cells #[.int .i32 0, .int .u32 0, .map (some w.heap.size)] 56)) (.cells #[.pointer (some ⟨w.heap.size + 1, 0, none⟩), .string addr, .bool trial, .pointer none, .int .u32 (tk taken)] 49)
  rw [hs] at n1
  rw [show (w1.alloc (.cells #[.int .i32 0, .int .u32 0, .map (some w.heap.size)] 56)).heap.size = w.heap.size + 2 from by simp [hs]] at n2
  refine ⟨(hm.alloc _).alloc _, ?_, n2, ?_⟩
  · show (World.alloc _ _).heap[w.heap.size + 1]? = _
    rw [Below.heap_alloc _ _ _ (by simp [hs])]
    exact n1
  · exact ((hb.alloc hb.size _).alloc (by simp; omega) _).drew

theorem neq_bytes {a b : ByteArray} (h : a ≠ b) : (!a.toList == b.toList) = true := by
  have h1 : a.toList ≠ b.toList := fun e => h (kl_inj (by unfold kl; rw [← ByteArray.toList_eq, ← ByteArray.toList_eq, e]))
  simpa using h1
theorem eq_bytes (a : ByteArray) : (!a.toList == a.toList) = false := by simp

/-- What the map of the law reads as. -/
def d1 (addr : ByteArray) (present val : Bool) : DataW Unit := if present then (DataW.map []).put (kl addr) (.lit (.bool val)) else .map []

set_option maxHeartbeats 1000000 in
theorem build_any1 (addr other : ByteArray) (present val ov trial taken : Bool) (ha : addr.size ≤ maxLen) (ho : other.size ≤ maxLen) (hne : other ≠ addr) (w : World) :
    Calls Yba.prog 7 #[.string addr, .string other, .bool present, .bool val, .bool ov, .bool trial, .bool taken] w fun e w' =>
      e = .returned (.tuple #[.pointer (some ⟨w.heap.size + 2, 0, none⟩), .map (some w.heap.size), .bool true]) ∧
      Made w addr trial taken 2 ((d1 addr present val).put (kl other) (.lit (.bool ov))) w' := by
  have hq := neq_bytes hne
  have hmm := @run_makeMap Yba.prog
  have hown : (w.alloc (.map #[] 0)).ownsMap Yba.prog 9 (plainElem Yba.prog 4) w.heap.size 0 (DataW.map [] : DataW Unit) := World.ownsMap_made _ _ _ _
  have H0 := hid hown
  clear hown
  cases present
  · go_enter Yba.func7, Yba.ntmps7
    go_wp2_with (at_mapUpdate; refine wpList_mapUpdate_in _ rfl _ _ _ 24 rfl 9 4 law9 Yba.underlying24 _ w.heap.size 0 _ rfl H0.out (by unfold maxLen; omega) _ _ _ rfl rfl (key_mk ho) _ [] (plainElem_bool Yba.underlying4 _) ?_; intro w1 hown1 hturn1; have hs1 : w1.heap.size = w.heap.size + 1 := (turned_size hturn1).trans (by simp); have O1 := hid hown1; have T1 := hid hturn1; clear hown1 hturn1)
    refine (store_any _ (.int .u32 0) _ _ ?_ ?_).mono ?_
    · go_simp
    · go_simp
    rintro e w' ⟨rfl, rfl⟩
    go_wp2_with fail
    go_ret3
    refine ⟨rfl, ?_⟩
    exact made_of taken (O1.out.mono (by omega)) hs1 (((Below.refl _ _).alloc (Nat.le_refl _) _).grown T1.out.grown (by simp) (fun k hk => by simp at hk; omega))
  · go_enter Yba.func7, Yba.ntmps7
    go_wp2_with (first
      | (at_mapUpdate; refine wpList_mapUpdate_in _ rfl _ _ _ 24 rfl 9 4 law9 Yba.underlying24 _ w.heap.size 0 _ rfl H0.out (by unfold maxLen; omega) _ _ _ rfl rfl (key_mk ha) _ [] (plainElem_bool Yba.underlying4 _) ?_; intro w1 hown1 hturn1; have hs1 : w1.heap.size = w.heap.size + 1 := (turned_size hturn1).trans (by simp); have O1 := hid hown1; have T1 := hid hturn1; clear hown1 hturn1 H0)
      | (at_mapUpdate; refine wpList_mapUpdate_in _ rfl _ _ _ 24 rfl 9 4 law9 Yba.underlying24 _ w.heap.size 1 _ rfl O1.out (by unfold maxLen; omega) _ _ _ rfl rfl (key_mk ho) _ [] (plainElem_bool Yba.underlying4 _) ?_; intro w2 hown2 hturn2; have hs2 : w2.heap.size = w.heap.size + 1 := (turned_size hturn2).trans hs1; have O2 := hid hown2; have T2 := hid hturn2; clear hown2 hturn2 O1))
    refine (store_any _ (.int .u32 0) _ _ ?_ ?_).mono ?_
    · go_simp
    · go_simp
    rintro e w' ⟨rfl, rfl⟩
    go_wp2_with fail
    go_ret3
    refine ⟨rfl, ?_⟩
    exact made_of taken O2.out hs2 ((((Below.refl _ _).alloc (Nat.le_refl _) _).grown T1.out.grown (by simp) (fun k hk => by simp at hk; omega)).grown T2.out.grown (by omega) (fun k hk => by simp at hk; omega))

set_option maxHeartbeats 1000000 in
theorem build_any0 (addr : ByteArray) (present val ov trial taken : Bool) (ha : addr.size ≤ maxLen) (w : World) :
    Calls Yba.prog 7 #[.string addr, .string addr, .bool present, .bool val, .bool ov, .bool trial, .bool taken] w fun e w' =>
      e = .returned (.tuple #[.pointer (some ⟨w.heap.size + 2, 0, none⟩), .map (some w.heap.size), .bool false]) ∧
      Made w addr trial taken 2 (d1 addr present val) w' := by
  have hmm := @run_makeMap Yba.prog
  have hown : (w.alloc (.map #[] 0)).ownsMap Yba.prog 9 (plainElem Yba.prog 4) w.heap.size 0 (DataW.map [] : DataW Unit) := World.ownsMap_made _ _ _ _
  have H0 := hid hown
  clear hown
  cases present
  · go_enter Yba.func7, Yba.ntmps7
    go_wp2_with fail
    refine (store_any _ (.int .u32 0) _ _ ?_ ?_).mono ?_
    · go_simp
    · go_simp
    rintro e w' ⟨rfl, rfl⟩
    go_wp2_with fail
    go_ret3
    refine ⟨rfl, ?_⟩
    exact made_of taken (H0.out.mono (by omega)) (by simp) ((Below.refl _ _).alloc (Nat.le_refl _) _)
  · go_enter Yba.func7, Yba.ntmps7
    go_wp2_with (at_mapUpdate; refine wpList_mapUpdate_in _ rfl _ _ _ 24 rfl 9 4 law9 Yba.underlying24 _ w.heap.size 0 _ rfl H0.out (by unfold maxLen; omega) _ _ _ rfl rfl (key_mk ha) _ [] (plainElem_bool Yba.underlying4 _) ?_; intro w1 hown1 hturn1; have hs1 : w1.heap.size = w.heap.size + 1 := (turned_size hturn1).trans (by simp); have O1 := hid hown1; have T1 := hid hturn1; clear hown1 hturn1 H0)
    refine (store_any _ (.int .u32 0) _ _ ?_ ?_).mono ?_
    · go_simp
    · go_simp
    rintro e w' ⟨rfl, rfl⟩
    go_wp2_with fail
    go_ret3
    refine ⟨rfl, ?_⟩
    exact made_of taken (O1.out.mono (by omega)) hs1 (((Below.refl _ _).alloc (Nat.le_refl _) _).grown T1.out.grown (by simp) (fun k hk => by simp at hk; omega))

end Go.Proofs.Ybulkayhw.Fin
