/-
  THE ARGUMENTS OPENED: slices of three-field structs; a map.
-/
import Derived.Test.Qxb6603412aH
import Derived.Deep.Slices
import Derived.Deep.Strs
import Derived.OpenShut
import Derived.ShutString
import Derived.ChangeOld
import Derived.Below
import Derived.WideKeyArgs2
import Derived.WideLaws
namespace Go.Proofs.Qxb6603412a
open Go.ChangeShapes Go.WideShapes Go.ChangeAt Go.RowKit Go.Maps
set_option linter.unusedVariables false

theorem Try.cells42 : Try.prog.cellsOf 42 = 3 := by kernel_rfl
theorem Try.cells58 : Try.prog.cellsOf 58 = 3 := by kernel_rfl
theorem Try.cells3 : Try.prog.cellsOf 3 = 1 := by kernel_rfl
theorem Try.cells4 : Try.prog.cellsOf 4 = 1 := by kernel_rfl

theorem add_pl (b off j : Nat) : (⟨b, off, none⟩ : Addr).add j = ⟨b, off + j, none⟩ := by unfold Addr.add; simp

/-- A slice of structs that came in. -/
structure InS {α : Type} (f : α → V3) (w : World) (a : Option Addr) (n c : Nat) (Y : List α) : Prop where
  len : Y.length = n
  max : n ≤ maxLen
  nil : a = none → n = 0 ∧ c = 0
  row : TRow w a (Y.map f)

theorem inS_of {α : Type} (f : α → V3) {W : World} {a : Addr} {len cap : Nat} (hl : len ≤ cap) (hm : cap ≤ maxLen) (F : Nat → α)
    (h : ∀ i, i < len → W.cell? ((a.add (i * 3)).add 0) = some (f (F i)).1 ∧ W.cell? ((a.add (i * 3)).add 1) = some (f (F i)).2.1 ∧ W.cell? ((a.add (i * 3)).add 2) = some (f (F i)).2.2) :
    InS f W (some a) len cap ((List.range len).map F) := by
  refine ⟨by simp, by omega, fun h => (by cases h), ?_⟩
  by_cases h0 : len = 0
  · subst h0; exact .inl (by simp)
  obtain ⟨b, off, spot⟩ := a
  have hspot : spot = none := by
    have := World.cell?_spot (h 0 (by omega)).1
    simpa [Addr.add] using this
  subst hspot
  refine .inr ⟨b, off, rfl, fun j hj => ?_⟩
  have hjl : j < len := by simpa using hj
  have := h j hjl
  simp only [add_pl, Nat.add_zero] at this
  have e : (((List.range len).map F).map f).getD j (undef, undef, undef) = f (F j) := by simp [List.getD, hjl]
  rw [e]
  exact this

theorem inE_of {H : Type} {enc : TypeId × Value → H} {W : World} {a : Option Addr} {len cap : Nat} {d : DataW H} {p : List MemPlace}
    (h : DataW.Trod enc Try.prog W 0 (fun _ => true) true 22 (Value.slice a len cap) d p) : ∃ E : List (Int × Int × Int), InS eV W a len cap E := by
  obtain ⟨fuel, hf⟩ := h
  rcases Deep.open_slice Try.underlying22 hf with ⟨hcs, _⟩ | ⟨x, l, c, m, n, D, Pl, hcs, _, hl, hm, hmm, _, hx⟩
  · simp [Value.cells] at hcs
    obtain ⟨rfl, rfl, rfl⟩ := hcs
    exact ⟨[], rfl, by decide, fun _ => ⟨rfl, rfl⟩, .inl rfl⟩
  · simp [Value.cells] at hcs
    obtain ⟨rfl, rfl, rfl⟩ := hcs
    simp only [if_true] at hmm
    obtain ⟨F, hF⟩ := Deep.choose_lt (n := len) (p := fun i (v : Int × Int × Int) => W.cell? ((x.add (i * 3)).add 0) = some (eV v).1 ∧ W.cell? ((x.add (i * 3)).add 1) = some (eV v).2.1 ∧ W.cell? ((x.add (i * 3)).add 2) = some (eV v).2.2) (fun i hi => by
      obtain ⟨cs', h1, h2⟩ := hx i (by omega)
      rw [Try.cells42] at h1
      obtain ⟨_, hlen, hc⟩ := World.cells?_some h1
      obtain ⟨y0, y1, y2, k, _, _, t0, t1, t2⟩ := Deep.trod_struct3 Try.underlying42 h2
      match cs', hlen with
      | [v0, v1, v2], _ =>
        rw [Try.cells3] at t0 t1 t2
        obtain ⟨f, e0, _, _⟩ := DataW.trod_int Try.underlying3 t0
        obtain ⟨t, e1, _, _⟩ := DataW.trod_int Try.underlying3 t1
        obtain ⟨q, e2, _, _⟩ := DataW.trod_int Try.underlying3 t2
        simp at e0 e1 e2
        subst e0; subst e1; subst e2
        exact ⟨(f, t, q), hc 0 (by omega), hc 1 (by omega), hc 2 (by omega)⟩)
    exact ⟨_, inS_of eV hl hm F hF⟩

theorem inG_of {H : Type} {enc : TypeId × Value → H} {W : World} {a : Option Addr} {len cap : Nat} {d : DataW H} {p : List MemPlace}
    (h : DataW.Trod enc Try.prog W 0 (fun _ => true) true 23 (Value.slice a len cap) d p) : ∃ G : List (Int × Int × Bool), InS gV W a len cap G ∧ WfG G := by
  obtain ⟨fuel, hf⟩ := h
  rcases Deep.open_slice Try.underlying23 hf with ⟨hcs, _⟩ | ⟨x, l, c, m, n, D, Pl, hcs, _, hl, hm, hmm, _, hx⟩
  · simp [Value.cells] at hcs
    obtain ⟨rfl, rfl, rfl⟩ := hcs
    exact ⟨[], ⟨rfl, by decide, fun _ => ⟨rfl, rfl⟩, .inl rfl⟩, fun g hg => by simp at hg⟩
  · simp [Value.cells] at hcs
    obtain ⟨rfl, rfl, rfl⟩ := hcs
    simp only [if_true] at hmm
    obtain ⟨F, hF⟩ := Deep.choose_lt (n := len) (p := fun i (v : Int × Int × Bool) => (W.cell? ((x.add (i * 3)).add 0) = some (gV v).1 ∧ W.cell? ((x.add (i * 3)).add 1) = some (gV v).2.1 ∧ W.cell? ((x.add (i * 3)).add 2) = some (gV v).2.2) ∧ (Lit.int .i64 v.1).wf = true ∧ (Lit.int .i64 v.2.1).wf = true) (fun i hi => by
      obtain ⟨cs', h1, h2⟩ := hx i (by omega)
      rw [Try.cells58] at h1
      obtain ⟨_, hlen, hc⟩ := World.cells?_some h1
      obtain ⟨y0, y1, y2, k, _, _, t0, t1, t2⟩ := Deep.trod_struct3 Try.underlying58 h2
      match cs', hlen with
      | [v0, v1, v2], _ =>
        rw [Try.cells3] at t0 t1
        rw [Try.cells4] at t2
        obtain ⟨f, e0, _, wf0⟩ := DataW.trod_int Try.underlying3 t0
        obtain ⟨t, e1, _, wf1⟩ := DataW.trod_int Try.underlying3 t1
        obtain ⟨q, e2, _⟩ := DataW.trod_bool Try.underlying4 t2
        simp at e0 e1 e2
        subst e0; subst e1; subst e2
        exact ⟨(f, t, q), ⟨hc 0 (by omega), hc 1 (by omega), hc 2 (by omega)⟩, wf0, wf1⟩)
    refine ⟨_, inS_of gV hl hm F fun i hi => (hF i hi).1, fun g hg => ?_⟩
    obtain ⟨i, hi, rfl⟩ := List.mem_map.1 hg
    exact (hF i (by simpa using hi)).2

theorem Try.mapU : Try.prog.underlying 24 = some (.map (Try.prog.mapKeyOf 24) (Try.prog.mapElemOf 24)) := by kernel_rfl

/-- The map that came in. -/
theorem mapIn_of {H : Type} {enc : TypeId × Value → H} {W : World} {a : Option Nat} {d : DataW H} {p : List MemPlace} {G : List (Int × Int × Bool)} {n : Nat} (hG : G.length = n) (hwf : WfG G)
    (h : DataW.Trod enc Try.prog W 0 (fun _ => true) true 24 (Value.map a) d p) : ∃ L, MapIn G n (.map a) L W := by
  obtain ⟨fuel, hf⟩ := h
  rcases WideElems.open_map Try.underlying24 hf with ⟨hcs, _⟩ | ⟨bm, es, clock, m, rfl, hcs, hb, _, F, _⟩
  · simp [Value.cells] at hcs
    subst hcs
    exact ⟨0, fun ty => run_len_nilMap (w := W) 24 ty Try.mapU, fun hn w1 ao c hb hr => last_nil ao n c G w1 hG hn hr hwf⟩
  · simp [Value.cells] at hcs
    subst hcs
    have hown := World.ownsMap_of_fit (R := plainElem Try.prog 3) hb F (fun x _ z hz => elemAt_plainElem_int Try.underlying3 hz)
    exact ⟨_, fun ty => hown.len Try.underlying24 ty, fun hn w1 ao c hb1 hr => last_some ao n c bm es.size G _ w1 hG hn hr hwf (map_keep hown (hb1.block bm (map_lt hown)))⟩
end Go.Proofs.Qxb6603412a
