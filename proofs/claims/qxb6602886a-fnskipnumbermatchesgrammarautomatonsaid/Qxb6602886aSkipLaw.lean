import Derived.Test.Qxb6602886aRows
import Derived.Test.Qxb6602886aSkip
import Derived.Test.Qxb6602886aNumE
import Derived.Test.Qxb6602886aClone
import Derived.WalkKit
import Derived.ProofKit
import Derived.OpenShut
import Derived.ShutString
import Derived.ChangeOld
import Derived.Below
namespace Go.Proofs.Qxb6602886a.fnSkipNumberMatchesGrammarAutomaton
open Go.ChangeShapes Go.WideShapes Go.ChangeAt Go.RowKit
open Go.ChangeMaps (open_string shut_string)
set_option linter.unusedVariables false

theorem own : ownKnob Try.prog.godebug = none := by kernel_rfl
theorem laidOut : laidOutB Try.prog = true := by kernel_rfl

/-- WHAT THE WALK IS TOLD OF A SLICE OF INTEGERS THAT CAME IN: it is nil; or it leads to a row of 'cap' cells, the numbers 'zs' (the first 'len' are its elements, the rest its spare room), each fitting its kind. -/
def IsRow (k : IntKind) (w : World) (a : Option Addr) (len cap : Nat) (zs : List Int) : Prop :=
  (a = none ∧ len = 0 ∧ cap = 0 ∧ zs = []) ∨
  ∃ x, a = some x ∧ len ≤ cap ∧ cap ≤ maxLen ∧ zs.length = cap ∧ (∀ i, i < zs.length → w.cell? (x.add i) = some (.int k (zs.getD i 0))) ∧ ∀ n ∈ zs, (Lit.int k n).wf = true

set_option maxRecDepth 100000 in
set_option maxHeartbeats 2000000 in
theorem zzskip_any (B : Nat) (ys : List Int) (i : Nat) (bad : Bool) (w : World) (hB : B < w.heap.size) (hi : i < ys.length) (hl : ys.length ≤ 1048576)
    (hbytes : ∀ k, k < ys.length → w.cell? ⟨B, k, none⟩ = some (.int .u8 (ys.getD k 0))) :
    Calls Try.prog 20 #[.slice (some ⟨B, 0, none⟩) ys.length ys.length, .int .i64 i, .bool bad] w fun e w' =>
      e = .returned (.tuple #[.int .i64 (resI (skipP (ys.drop i) i) ys.length), .bool (resB (skipP (ys.drop i) i) bad)]) ∧ Below w.heap.size w w' := by
  obtain ⟨O, hO⟩ : ∃ O, skipP (ys.drop i) i = O := ⟨_, rfl⟩
  have hb : Below w.heap.size w (w.alloc (Obj.cells #[Value.slice (some { block := B, off := 0 }) ys.length ys.length, Value.int IntKind.i64 ↑i, Value.bool bad, Value.int IntKind.i64 0, Value.int IntKind.i64 0, Value.slice none 0 0, Value.pointer none, Value.int IntKind.i64 0] 49)) :=
    (Below.refl _ _).alloc (Nat.le_refl _) _
  have HS : Hid (Calls Try.prog 25 #[.pointer (some ⟨w.heap.size, 0, none⟩)] (w.alloc (Obj.cells #[Value.slice (some { block := B, off := 0 }) ys.length ys.length, Value.int IntKind.i64 ↑i, Value.bool bad, Value.int IntKind.i64 0, Value.int IntKind.i64 0, Value.slice none 0 0, Value.pointer none, Value.int IntKind.i64 0] 49)) fun e w' => e = .returned (.tuple #[]) ∧
      w'.cell? ⟨w.heap.size, 1, none⟩ = some (.int .i64 (resI (skipP (ys.drop i) i) ys.length)) ∧ w'.cell? ⟨w.heap.size, 2, none⟩ = some (.bool (resB (skipP (ys.drop i) i) bad)) ∧ Below w.heap.size (w.alloc (Obj.cells #[Value.slice (some { block := B, off := 0 }) ys.length ys.length, Value.int IntKind.i64 ↑i, Value.bool bad, Value.int IntKind.i64 0, Value.int IntKind.i64 0, Value.slice none 0 0, Value.pointer none, Value.int IntKind.i64 0] 49)) w') := by
    refine skip_any B w.heap.size ys i bad _ hB (by simp) hi hl (fun k hk => (hb.cell (p := ⟨B, k, none⟩) hB).trans (hbytes k hk)) (by simp) (by simp) (by simp) (fun o => by simp)
  have HB : Hid (Below w.heap.size w (w.alloc (Obj.cells #[Value.slice (some { block := B, off := 0 }) ys.length ys.length, Value.int IntKind.i64 ↑i, Value.bool bad, Value.int IntKind.i64 0, Value.int IntKind.i64 0, Value.slice none 0 0, Value.pointer none, Value.int IntKind.i64 0] 49))) := hb
  rw [hO] at HS ⊢
  obtain ⟨ri, hri⟩ : ∃ ri, resI O ys.length = ri := ⟨_, rfl⟩
  obtain ⟨rb, hrb⟩ : ∃ rb, resB O bad = rb := ⟨_, rfl⟩
  rw [hri, hrb] at HS ⊢
  clear hbytes hb hO hri hrb
  go_enter Try.func20, Try.ntmps20
  go_wp2_with fail
  refine HS.out.mono ?_
  rintro e w2 ⟨rfl, h1, h2, hb2⟩
  have HB2 : Hid (Below w.heap.size w w2) := HB.out.trans hb2
  clear hb2 HB HS
  go_wp2
  go_quiet (fail)
  go_wp2
  go_ret2
  exact ⟨rfl, below_drewN HB2.out _⟩

theorem bytes_yes (a : Option Addr) (len cap : Nat) (i : Int) (bad : Bool) (w : World) (h : len ≤ 1048576) : Calls Try.prog 18 #[.slice a len cap, .int .i64 i, .bool bad] w fun e w' => e = .returned (.bool true) ∧ w = w' := by
  go_enter Try.func18, Try.ntmps18
  go_wp2
  go_ret
  exact ⟨rfl, rfl⟩
theorem bytes_no (a : Option Addr) (len cap : Nat) (i : Int) (bad : Bool) (w : World) (h : 1048576 < len) (_h' : len ≤ maxLen) : Calls Try.prog 18 #[.slice a len cap, .int .i64 i, .bool bad] w fun e w' => e = .returned (.bool false) ∧ w = w' := by
  go_enter Try.func18, Try.ntmps18
  go_wp2
  go_ret
  exact ⟨rfl, rfl⟩

/-- Beyond the bound, or no place inside: true at once. -/
theorem walk_out (a : Option Addr) (len cap : Nat) (i : Int) (bad : Bool) (w : World) (h : 65536 < len ∨ (len ≤ 65536 ∧ i < 0) ∨ (len ≤ 65536 ∧ 0 ≤ i ∧ (len : Int) ≤ i)) (h' : len ≤ maxLen) :
    Calls Try.prog 7 #[.slice a len cap, .int .i64 i, .bool bad] w fun e w' => e = .returned (.bool true) ∧ Below w.heap.size w w' := by
  by_cases hb : len ≤ 1048576
  · have H : Hid (Calls Try.prog 18 #[.slice a len cap, .int .i64 i, .bool bad] w fun e w' => e = .returned (.bool true) ∧ w = w') := bytes_yes a len cap i bad w hb
    rcases h with h | ⟨h, h2⟩ | ⟨h, h2, h3⟩
    all_goals
      go_enter Try.func7, Try.ntmps7
      go_wp2_with (go_at_call 18; refine H.out.mono ?_; rintro e w' ⟨rfl, rfl⟩)
      go_ret
      exact ⟨rfl, Below.refl _ _⟩
  · have H : Hid (Calls Try.prog 18 #[.slice a len cap, .int .i64 i, .bool bad] w fun e w' => e = .returned (.bool false) ∧ w = w') := bytes_no a len cap i bad w (by omega) h'
    go_enter Try.func7, Try.ntmps7
    go_wp2_with (go_at_call 18; refine H.out.mono ?_; rintro e w' ⟨rfl, rfl⟩)
    go_ret
    exact ⟨rfl, Below.refl _ _⟩

set_option maxRecDepth 100000 in
set_option maxHeartbeats 2000000 in
theorem walk_in (b off len cap : Nat) (ys : List Int) (i : Nat) (bad : Bool) (w : World) (hy : ys.length = len) (hl : len ≤ 65536) (hi : i < len)
    (hc : ∀ k, k < len → w.cell? ⟨b, off + k, none⟩ = some (.int .u8 (ys.getD k 0))) :
    Calls Try.prog 7 #[.slice (some ⟨b, off, none⟩) len cap, .int .i64 i, .bool bad] w fun e w' => e = .returned (.bool true) ∧ Below w.heap.size w w' := by
  have H : Hid (Calls Try.prog 18 #[.slice (some ⟨b, off, none⟩) len cap, .int .i64 i, .bool bad] w fun e w' => e = .returned (.bool true) ∧ w = w') := bytes_yes _ len cap i bad w (by omega)
  have H1 : Hid (Calls Try.prog 10 #[.slice (some ⟨b, off, none⟩) len cap] w fun e w' => e = .returned (.slice (some ⟨w.heap.size, 0, none⟩) len len) ∧ Copied w w' ys) := clone_some b off len cap ys w hy (by omega) hc
  have hbw : 0 < len := by omega
  clear hc
  subst hy
  go_enter Try.func7, Try.ntmps7
  go_wp2_with (first | (go_at_call 18; refine H.out.mono ?_; rintro e w' ⟨rfl, rfl⟩) | (go_at_call 10; refine H1.out.mono ?_; rintro e w1 ⟨rfl, hC⟩; have HC : Hid (Copied w w1 ys) := hC; clear hC))
  have hsz : w.heap.size < w1.heap.size := World.block_lt_of_cell? w1 ⟨w.heap.size, 0, none⟩ (HC.out.cell 0 hbw)
  have HE : Hid (Calls Try.prog 19 #[.slice (some ⟨w.heap.size, 0, none⟩) ys.length ys.length, .int .i64 i] w1 fun e w' => e = endEnd (skipP (ys.drop i) i) ∧ w1 = w') :=
    (numberEnd_any w.heap.size ys i w1 (by omega) (by omega) HC.out.cell).mono fun _ _ h => ⟨by rw [h.1, end0], h.2.symm⟩
  have HZ : Hid (Calls Try.prog 20 #[.slice (some ⟨w.heap.size, 0, none⟩) ys.length ys.length, .int .i64 i, .bool bad] w1 fun e w' =>
      e = .returned (.tuple #[.int .i64 (resI (skipP (ys.drop i) i) ys.length), .bool (resB (skipP (ys.drop i) i) bad)]) ∧ Below w1.heap.size w1 w') :=
    zzskip_any w.heap.size ys i bad w1 hsz hi (by omega) HC.out.cell
  cases hO : skipP (ys.drop i) i with
  | none =>
    rw [hO] at HE HZ
    have HE2 : Hid (Calls Try.prog 19 #[.slice (some ⟨w.heap.size, 0, none⟩) ys.length ys.length, .int .i64 i] w1 fun e w' => e = .returned (.tuple #[.int .i64 0, .bool false]) ∧ w1 = w') := HE
    have HZ2 : Hid (Calls Try.prog 20 #[.slice (some ⟨w.heap.size, 0, none⟩) ys.length ys.length, .int .i64 i, .bool bad] w1 fun e w' => e = .returned (.tuple #[.int .i64 (ys.length : Nat), .bool true]) ∧ Below w1.heap.size w1 w') := HZ
    clear HE HZ hO H H1
    refine HE2.out.mono ?_
    rintro e w' ⟨rfl, rfl⟩
    go_wp2_with (go_at_call 20; refine HZ2.out.mono ?_; rintro e w2 ⟨rfl, hb2⟩; have HB2 : Hid (Below w1.heap.size w1 w2) := hb2; clear hb2)
    go_ret
    exact ⟨by simp, HC.out.2.trans (HB2.out.mono (by omega))⟩
  | some j =>
    rw [hO] at HE HZ
    have HE2 : Hid (Calls Try.prog 19 #[.slice (some ⟨w.heap.size, 0, none⟩) ys.length ys.length, .int .i64 i] w1 fun e w' => e = .returned (.tuple #[.int .i64 (j : Nat), .bool true]) ∧ w1 = w') := HE
    have HZ2 : Hid (Calls Try.prog 20 #[.slice (some ⟨w.heap.size, 0, none⟩) ys.length ys.length, .int .i64 i, .bool bad] w1 fun e w' => e = .returned (.tuple #[.int .i64 (j : Nat), .bool bad]) ∧ Below w1.heap.size w1 w') := HZ
    clear HE HZ hO H H1
    refine HE2.out.mono ?_
    rintro e w' ⟨rfl, rfl⟩
    go_wp2_with (go_at_call 20; refine HZ2.out.mono ?_; rintro e w2 ⟨rfl, hb2⟩; have HB2 : Hid (Below w1.heap.size w1 w2) := hb2; clear hb2)
    go_ret
    exact ⟨by simp, HC.out.2.trans (HB2.out.mono (by omega))⟩

theorem walk (a0 : Option Addr) (len0 cap0 : Nat) (z0 : List Int) (a1 : Int) (a2 : Bool) (w : World) (w0 : IsRow .u8 w a0 len0 cap0 z0) (w1 : (Lit.int .i64 a1).wf = true) :
    Calls Try.prog 7 #[.slice a0 len0 cap0, .int .i64 a1, .bool a2] w fun e w' => e = .returned (.bool true) ∧ Below w.heap.size w w' := by
  rcases w0 with ⟨rfl, rfl, rfl, rfl⟩ | ⟨x, rfl, hl, hm, hz, hcell, hwz⟩
  · exact walk_out none 0 0 a1 a2 w (by omega) (by decide)
  by_cases hbig : 65536 < len0 ∨ (len0 ≤ 65536 ∧ a1 < 0) ∨ (len0 ≤ 65536 ∧ 0 ≤ a1 ∧ (len0 : Int) ≤ a1)
  · exact walk_out _ _ _ a1 a2 w hbig (by omega)
  obtain ⟨i, rfl⟩ := Int.eq_ofNat_of_zero_le (show 0 ≤ a1 by omega)
  obtain ⟨b, off, spot⟩ := x
  have hspot : spot = none := by simpa [Addr.add] using World.cell?_spot (hcell 0 (by omega))
  subst hspot
  have hcell' : ∀ j, j < len0 → w.cell? ⟨b, off + j, none⟩ = some (.int .u8 ((z0.take len0).getD j 0)) := fun j hj => by
    have := hcell j (by omega)
    rw [add_plain] at this
    rw [this]
    simp [List.getD, hj]
  have hy : (z0.take len0).length = len0 := by simp; omega
  exact walk_in b off len0 cap0 (z0.take len0) i a2 w hy (by omega) (by omega) hcell'

/-! ### THE ROW's STEP: WRITTEN OUT: LEAVE IT -/
set_option maxRecDepth 100000 in
theorem lifted (os : Os) (started : os.Started) (H : Type) (enc : TypeId × Value → H) :
    ReturnsInHanded {} Try.checked os 7 .any (Rows.fnSkipNumberMatchesGrammarAutomatonSpec.pre6 enc Try.prog Try.f7 Rows.fnSkipNumberMatchesGrammarAutomatonRow.domain false) (Rows.fnSkipNumberMatchesGrammarAutomatonSpec.post enc Try.prog Try.f7 false true false false) := by
  refine returnsInHanded_of_change (C := Try.checked) own started (by kernel_rfl) Try.func7
    (ChangeSpec.witness6 (enc := enc) (C := Try.checked) false ⟨#[], #[.slice none 0 0, .int .i64 0, .bool false], []⟩ 8 (by kernel_rfl) (by kernel_rfl) (by kernel_rfl) (by kernel_rfl)) ?_
  intro W base args ds gs before hval0 hW hcnd _
  have hval : ∀ (j : Nat) t v, Try.f7.params[j]? = some t → args[j]? = some v → Value.okWide Try.prog W .any base t v := hval0
  have hW' := hW
  obtain ⟨p, q, hA0, hV, rfl, hfz, hnd⟩ := hW
  have hA : DataW.TrodAll enc Try.prog W 0 (fun _ => true) true Try.f7.params.toList args.toList ds p := hA0
  rw [Try.params7] at hA hval
  obtain ⟨v0, vs0, d0, ds0, p0, q0, hargs, rfl, rfl, h0, r0⟩ := trodAll_cons hA
  obtain ⟨v1, vs1, d1, ds1, p1, q1, rfl, rfl, rfl, h1, r1⟩ := trodAll_cons r0
  obtain ⟨v2, vs2, d2, ds2, p2, q2, rfl, rfl, rfl, h2, r2⟩ := trodAll_cons r1
  obtain ⟨rfl, rfl, rfl⟩ := trodAll_nil r2
  obtain rfl : args = #[v0, v1, v2] := by cases args; simp_all
  obtain ⟨rfl, rfl⟩ := trodVars_none hV
  obtain ⟨a0, len0, cap0, rfl⟩ := okWide_slice Try.underlying22 (hval 0 22 v0 rfl rfl)
  have k0 := h0
  have lt0 : ∀ x ∈ p0, x.block < W.heap.size := by obtain ⟨m, hm⟩ := k0; exact DataW.trod_lt m _ _ _ hm
  obtain ⟨z0, w0⟩ : ∃ zs, IsRow .u8 W a0 len0 cap0 zs := by
    obtain ⟨fuel, hf⟩ := h0
    rcases open_ints Try.underlying22 Try.underlying5 (by kernel_rfl) hf with ⟨hcs, _⟩ | ⟨x, l, c, zs, hcs, _, hl, hm, hz, _, hcell, hwz⟩
    · simp [Value.cells] at hcs
      obtain ⟨rfl, rfl, rfl⟩ := hcs
      exact ⟨[], .inl ⟨rfl, rfl, rfl, rfl⟩⟩
    · simp [Value.cells] at hcs
      obtain ⟨rfl, rfl, rfl⟩ := hcs
      exact ⟨zs, .inr ⟨_, rfl, hl, hm, by simpa using hz, hcell, hwz⟩⟩
  obtain ⟨a1, rfl, rfl, rfl, w1⟩ := open_int Try.underlying3 (hval 1 3 v1 rfl rfl) h1
  obtain ⟨a2, rfl, rfl, rfl⟩ := open_bool Try.underlying4 (hval 2 4 v2 rfl rfl) h2
  clear hA0 hval0
  refine (walk a0 len0 cap0 z0 a1 a2 W w0 w1).mono fun e W' ⟨he, bel⟩ => ?_
  subst he
  exact ⟨_, rfl, _, _, _, [], _, [], hW', trodAll_mk1 (shut_bool Try.underlying4 _), (trodAll_cons_mk (Below.trod laidOut (by kernel_rfl) (of_decide_eq_true (by kernel_rfl)) k0 bel lt0) (trodAll_cons_mk (shut_int Try.underlying3 w1) (trodAll_cons_mk (shut_bool Try.underlying4 _) trodAll_mk0))), rfl, bel.frame _, fun h => by cases h⟩

theorem over : Rows.fnSkipNumberMatchesGrammarAutomatonRow.holds Try.pinned (OpenSpec.ofChange Rows.fnSkipNumberMatchesGrammarAutomatonSpec) :=
  OpenClaim.holds_of_wide 7 Try.f7 rfl rfl rfl rfl rfl rfl rfl ⟨rfl, rfl, rfl, rfl, rfl⟩ rfl rfl rfl rfl rfl (by kernel_rfl) Try.func7 (by kernel_rfl)
    (of_decide_eq_true (by kernel_rfl)) (by unfold Func.isWrapper; first | (rw [if_pos (by decide +kernel)]; kernel_rfl) | (rw [if_neg (by decide +kernel)]; exact ⟨rfl, rfl⟩))
    (fun os started H enc _ => lifted os started H enc)

/-- ████ THE STATEMENT ████ -/
theorem proved : Rows.FnSkipNumberMatchesGrammarAutomatonSaid := over
end Go.Proofs.Qxb6602886a.fnSkipNumberMatchesGrammarAutomaton
