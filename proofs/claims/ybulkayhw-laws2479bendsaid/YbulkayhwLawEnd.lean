/-
  LawS2479BEnd: the plain law on the map, and the walk: it returns true and writes nothing that was there.
-/
import Derived.Test.YbulkayhwEnd
namespace Go.Proofs.Ybulkayhw.Fin
open Go.RowKit Go.Maps Go.MuLone Go.ChangeMaps Go.WideMaps

/-! ### The plain law -/
/-- What is known of the map: is the key there, with which bool, and how many entries. -/
structure Fx (D : DataW Unit) (a : Lit) (ok got : Bool) (sz : Nat) : Prop where
  tidy : Tidy D
  has : Maps.has D a = ok
  got : gotB D a = (ok && got)
  size : Maps.size D = sz

theorem key_lit (s : ByteArray) : WideAt.IsKeyLit (kl s) := by simp [kl, WideAt.IsKeyLit]

theorem got_put {D : DataW Unit} {a : Lit} (hD : IsMap D) (ha : WideAt.IsKeyLit a) (v : Bool) : gotB (D.put a (.lit (.bool v))) a = v := by
  simp [gotB, atKey_put_same hD ha]
theorem got_put_other {D : DataW Unit} {a b : Lit} (hne : b ≠ a) (d : DataW Unit) : gotB (D.put a d) b = gotB D b := by
  simp [gotB, atKey_put_other hne]
theorem got_del {D : DataW Unit} {a : Lit} : gotB (D.del a) a = false := by
  simp [gotB, atKey_del_same]
theorem got_del_other {D : DataW Unit} {a b : Lit} (hne : b ≠ a) : gotB (D.del a) b = gotB D b := by
  simp [gotB, atKey_del_other hne]
theorem got_not_has {D : DataW Unit} {a : Lit} (h : Maps.has D a = false) : gotB D a = false := by
  simp [gotB, atKey_of_not_has h]

theorem fx_d1 (s : ByteArray) (p v : Bool) : Fx (d1 s p v) (kl s) p v (if p then 1 else 0) := by
  cases p
  · exact ⟨tidy_empty, rfl, rfl, rfl⟩
  · have t : Tidy (d1 s true v) := tidy_empty.put (key_lit s) _
    refine ⟨t, has_put_same isMap_empty (key_lit s) _, by simpa [d1] using got_put isMap_empty (key_lit s) v, ?_⟩
    have := size_put (k := kl s) (tidy_empty (H := Unit)) (.lit (.bool v))
    simpa [d1, Maps.has, Maps.size] using this

theorem has_d1_other {s o : ByteArray} (h : o ≠ s) (p v : Bool) : Maps.has (d1 s p v) (kl o) = false := by
  cases p
  · rfl
  · have := has_put_other (D := (DataW.map [] : DataW Unit)) (k := kl s) (k' := kl o) (fun e => h (kl_inj e)) (.lit (.bool v))
    simpa [d1, Maps.has] using this

theorem fx_put_other {D : DataW Unit} {s o : ByteArray} {ok got : Bool} {sz : Nat} (h : Fx D (kl s) ok got sz) (hne : o ≠ s) (hno : Maps.has D (kl o) = false) (v : Bool) :
    Fx (D.put (kl o) (.lit (.bool v))) (kl s) ok got (sz + 1) := by
  have hk : kl s ≠ kl o := fun e => hne (kl_inj e).symm
  refine ⟨h.tidy.put (key_lit o) _, (has_put_other hk _).trans h.has, (got_put_other hk _).trans h.got, ?_⟩
  rw [size_put h.tidy, hno]
  simp [h.size]

theorem fx_del {D : DataW Unit} {s : ByteArray} {ok got : Bool} {sz : Nat} (h : Fx D (kl s) ok got (sz + if ok then 1 else 0)) : Fx (D.del (kl s)) (kl s) false false sz := by
  refine ⟨h.tidy.del _, has_del_same, got_del, ?_⟩
  have := size_del (k := kl s) h.tidy
  rw [h.has, h.size] at this
  omega

theorem fx_put {D : DataW Unit} {s : ByteArray} {ok got : Bool} {sz : Nat} (h : Fx D (kl s) ok got (sz + if ok then 1 else 0)) : Fx (D.put (kl s) (.lit (.bool false))) (kl s) true false (sz + 1) := by
  refine ⟨h.tidy.put (key_lit s) _, has_put_same h.tidy.isMap (key_lit s) _, got_put h.tidy.isMap (key_lit s) false, ?_⟩
  rw [size_put h.tidy, h.has, h.size]
  cases ok <;> simp

/-- The law's wantOk and wantVal. -/
def wOk (present ans miss trial taken : Bool) : Bool := if ans || taken then false else if miss || (present && trial) then true else present
def wVal (present val ans miss trial taken : Bool) : Bool := if ans || taken then val else if miss || (present && trial) then false else val

theorem fx_end {D : DataW Unit} {s : ByteArray} {ok got : Bool} {sz : Nat} (h : Fx D (kl s) ok got (sz + if ok then 1 else 0)) (ans miss trial taken : Bool) :
    Fx (dEnd D (kl s) ans miss trial taken) (kl s) (wOk ok ans miss trial taken) (wVal ok got ans miss trial taken) (sz + if wOk ok ans miss trial taken then 1 else 0) := by
  have hd := fx_del h
  have hp := fx_put h
  unfold dEnd wOk wVal
  rw [h.has]
  by_cases h1 : (ans || taken) = true
  · simp only [h1, if_true]
    exact ⟨hd.tidy, hd.has, hd.got, by simpa using hd.size⟩
  · simp only [h1]
    by_cases h2 : (miss || (ok && trial)) = true
    · simp only [h2, if_true]
      exact hp
    · simp only [h2]
      exact h

theorem end_other {D : DataW Unit} {s o : ByteArray} (hne : o ≠ s) (ans miss trial taken : Bool) :
    Maps.has (dEnd D (kl s) ans miss trial taken) (kl o) = Maps.has D (kl o) ∧ gotB (dEnd D (kl s) ans miss trial taken) (kl o) = gotB D (kl o) := by
  have hk : kl o ≠ kl s := fun e => hne (kl_inj e)
  unfold dEnd
  by_cases h1 : (ans || taken) = true
  · simp only [h1, if_true]
    exact ⟨has_del_other hk, got_del_other hk⟩
  · simp only [h1]
    by_cases h2 : (miss || (Maps.has D (kl s) && trial)) = true
    · simp only [h2, if_true]
      exact ⟨has_put_other hk _, got_put_other hk _⟩
    · simp only [h2]
      exact ⟨rfl, rfl⟩

/-! ### The law -/
/-- What the rest of the law reads: from the map after end. -/
structure Rest (w : World) (addr other : ByteArray) (B : Nat) (ok got ov hasOther : Bool) (sz : Nat) (w3 : World) : Prop where
  a : (Instr.lookup 24 (.map (some B)) (.string addr) true).run Yba.prog w3 = .ok (.tuple #[.bool (ok && got), .bool ok]) w3
  o : hasOther = true → (Instr.lookup 24 (.map (some B)) (.string other) true).run Yba.prog w3 = .ok (.tuple #[.bool ov, .bool true]) w3
  len : ∀ ty, (Builtin.len_ #[24] ty #[.map (some B)]).run Yba.prog w3 = .ok (.int .i64 sz) w3
  below : Below w.heap.size w w3

set_option maxHeartbeats 1000000 in
theorem law_any1 (addr other : ByteArray) (present val ov ans miss trial taken : Bool) (ha : addr.size ≤ maxLen) (ho : other.size ≤ maxLen) (hne : other ≠ addr) (w : World) :
    Calls Yba.prog 3 #[.string addr, .string other, .bool present, .bool val, .bool ov, .bool ans, .bool miss, .bool trial, .bool taken] w fun e w' => e = .returned (.bool true) ∧ Below w.heap.size w w' := by
  have NIL := end_nil ans miss
  have BLD := build_any1 addr other present val ov trial taken ha ho hne w
  have END : Hid (∀ w2, Made w addr trial taken 2 ((d1 addr present val).put (kl other) (.lit (.bool ov))) w2 → Calls Yba.prog 6 #[.pointer (some ⟨w.heap.size + 2, 0, none⟩), .bool ans, .bool miss] w2 fun e w' => e = .returned (.tuple #[]) ∧
      Rest w addr other w.heap.size (wOk present ans miss trial taken) (wVal present val ans miss trial taken) ov true (1 + if wOk present ans miss trial taken then 1 else 0) w') := by
    intro w2 hM
    refine (end_any w.heap.size (w.heap.size + 1) (w.heap.size + 2) 2 _ addr ans miss trial taken w2 ha (by omega) hM.map hM.busy hM.intake).mono ?_
    rintro e w3 ⟨rfl, hm3, hb3⟩
    have fx := fx_end (sz := 1) (by rw [Nat.add_comm]; exact fx_put_other (fx_d1 addr present val) hne (has_d1_other hne present val) ov) ans miss trial taken
    obtain ⟨o1, o2⟩ := end_other (D := (d1 addr present val).put (kl other) (.lit (.bool ov))) hne ans miss trial taken
    have im : IsMap (d1 addr present val) := (fx_d1 addr present val).tidy.isMap
    refine ⟨rfl, ?_, fun _ => ?_, fun ty => ?_, hM.below.trans (hb3 _ (by omega) (by omega))⟩
    · rw [look hm3 ha, fx.has, fx.got]
    · rw [look hm3 ho, o1, o2, has_put_same im (key_lit other), got_put im (key_lit other)]
    · rw [World.ownsMap.len hm3 Yba.underlying24 ty, fx.size]
  go_enter Yba.func3, Yba.ntmps3
  go_wp2_with fail
  refine (NIL _).mono ?_
  rintro e w' ⟨rfl, rfl⟩
  clear NIL
  go_wp2_with fail
  refine BLD.mono ?_
  rintro e w2 ⟨rfl, hM⟩
  clear BLD
  go_wp2_with fail
  refine (END.out w2 hM).mono ?_
  rintro e w3 ⟨rfl, hR⟩
  clear END hM
  obtain ⟨ra, ro, rl, rb⟩ := hR
  have ro' := ro rfl
  clear ro
  cases ans
  · cases taken
    · cases miss
      · cases present
        · simp [wOk, wVal] at ra rl
          go_wp2_with fail
          go_ret
          exact ⟨rfl, rb⟩
        · cases trial
          · simp [wOk, wVal] at ra rl
            go_wp2_with fail
            go_ret
            exact ⟨rfl, rb⟩
          · simp [wOk, wVal] at ra rl
            go_wp2_with fail
            go_ret
            exact ⟨rfl, rb⟩
      · simp [wOk, wVal] at ra rl
        go_wp2_with fail
        go_ret
        exact ⟨rfl, rb⟩
    · simp [wOk, wVal] at ra rl
      go_wp2_with fail
      go_ret
      exact ⟨rfl, rb⟩
  · simp [wOk, wVal] at ra rl
    go_wp2_with fail
    go_ret
    exact ⟨rfl, rb⟩

set_option maxHeartbeats 1000000 in
theorem law_any0 (addr : ByteArray) (present val ov ans miss trial taken : Bool) (ha : addr.size ≤ maxLen) (w : World) :
    Calls Yba.prog 3 #[.string addr, .string addr, .bool present, .bool val, .bool ov, .bool ans, .bool miss, .bool trial, .bool taken] w fun e w' => e = .returned (.bool true) ∧ Below w.heap.size w w' := by
  have NIL := end_nil ans miss
  have BLD := build_any0 addr present val ov trial taken ha w
  have END : Hid (∀ w2, Made w addr trial taken 2 (d1 addr present val) w2 → Calls Yba.prog 6 #[.pointer (some ⟨w.heap.size + 2, 0, none⟩), .bool ans, .bool miss] w2 fun e w' => e = .returned (.tuple #[]) ∧
      Rest w addr addr w.heap.size (wOk present ans miss trial taken) (wVal present val ans miss trial taken) ov false (0 + if wOk present ans miss trial taken then 1 else 0) w') := by
    intro w2 hM
    refine (end_any w.heap.size (w.heap.size + 1) (w.heap.size + 2) 2 _ addr ans miss trial taken w2 ha (by omega) hM.map hM.busy hM.intake).mono ?_
    rintro e w3 ⟨rfl, hm3, hb3⟩
    have fx := fx_end (sz := 0) (by rw [Nat.zero_add]; exact fx_d1 addr present val) ans miss trial taken
    refine ⟨rfl, ?_, fun h => (by cases h), fun ty => ?_, hM.below.trans (hb3 _ (by omega) (by omega))⟩
    · rw [look hm3 ha, fx.has, fx.got]
    · rw [World.ownsMap.len hm3 Yba.underlying24 ty, fx.size]
  go_enter Yba.func3, Yba.ntmps3
  go_wp2_with fail
  refine (NIL _).mono ?_
  rintro e w' ⟨rfl, rfl⟩
  clear NIL
  go_wp2_with fail
  refine BLD.mono ?_
  rintro e w2 ⟨rfl, hM⟩
  clear BLD
  go_wp2_with fail
  refine (END.out w2 hM).mono ?_
  rintro e w3 ⟨rfl, hR⟩
  clear END hM
  obtain ⟨ra, ro, rl, rb⟩ := hR
  clear ro
  cases ans
  · cases taken
    · cases miss
      · cases present
        · simp [wOk, wVal] at ra rl
          go_wp2_with fail
          go_ret
          exact ⟨rfl, rb⟩
        · cases trial
          · simp [wOk, wVal] at ra rl
            go_wp2_with fail
            go_ret
            exact ⟨rfl, rb⟩
          · simp [wOk, wVal] at ra rl
            go_wp2_with fail
            go_ret
            exact ⟨rfl, rb⟩
      · simp [wOk, wVal] at ra rl
        go_wp2_with fail
        go_ret
        exact ⟨rfl, rb⟩
    · simp [wOk, wVal] at ra rl
      go_wp2_with fail
      go_ret
      exact ⟨rfl, rb⟩
  · simp [wOk, wVal] at ra rl
    go_wp2_with fail
    go_ret
    exact ⟨rfl, rb⟩

end Go.Proofs.Ybulkayhw.Fin
