/-
  THE SHELL OF A PROOF OF 'Rows.FnCurrentShowsOnlyTheLastPublishSaid' ('example.com/stratakv/stratakv/zzlaws_pkg_server_b1.FnCurrentShowsOnlyTheLastPublish'), WRITTEN BY PROGRAM (proof-skeleton.mjs, third state) off the guide's own print for that function. Not trusted: Lean checks it.
  The hole is filled by the walk's text (Qxb6614904aMain); all else is the guide's template at this function's number and types.
-/
import Derived.Test.Qxb6614904aRows
import Derived.WalkKit
import Derived.ProofKit
import Derived.OpenShut
import Derived.ShutString
import Derived.ChangeOld
import Derived.Below
import Derived.Test.Qxb6614904aMain
namespace Go.Proofs.Qxb6614904a.fnCurrentShowsOnlyTheLastPublish
open Go.ChangeShapes Go.WideShapes Go.ChangeAt Go.RowKit
open Go.ChangeMaps (open_string shut_string)
set_option linter.unusedVariables false

theorem own : ownKnob Try.prog.godebug = none := by kernel_rfl
theorem laidOut : laidOutB Try.prog = true := by kernel_rfl

/-- WHAT THE WALK IS TOLD OF A SLICE OF INTEGERS THAT CAME IN: it is nil; or it leads to a row of 'cap' cells, the numbers 'zs' (the first 'len' are its elements, the rest its spare room), each fitting its kind. -/
def IsRow (k : IntKind) (w : World) (a : Option Addr) (len cap : Nat) (zs : List Int) : Prop :=
  (a = none ∧ len = 0 ∧ cap = 0 ∧ zs = []) ∨
  ∃ x, a = some x ∧ len ≤ cap ∧ cap ≤ maxLen ∧ zs.length = cap ∧ (∀ i, i < zs.length → w.cell? (x.add i) = some (.int k (zs.getD i 0))) ∧ ∀ n ∈ zs, (Lit.int k n).wf = true

/-! ### What the walk asks of the slices that came in -/
theorem cell_spot {w : World} {x : Addr} {v : Value} (h : w.cell? x = some v) : x.spot = none ∧ x.block < w.heap.size := by
  unfold World.cell? at h
  split at h
  · rename_i hh
    refine ⟨?_, (Array.getElem?_eq_some_iff.1 hh).1⟩
    split at h
    · cases h
    · rename_i hs; simpa using hs
  · cases h
theorem IsRow.room {k : IntKind} {w : World} {a : Option Addr} {len cap : Nat} {zs : List Int} (h : IsRow k w a len cap zs) : len ≤ zs.length ∧ len ≤ maxLen := by
  rcases h with ⟨_, rfl, _, _⟩ | ⟨x, _, h1, h2, h3, _⟩
  · exact ⟨Nat.zero_le _, Nat.zero_le _⟩
  · exact ⟨by omega, by omega⟩
theorem IsRow.fits {k : IntKind} {w : World} {a : Option Addr} {len cap : Nat} {zs : List Int} (h : IsRow k w a len cap zs) : ∀ n ∈ zs.take len, (Lit.int k n).wf = true := by
  rcases h with ⟨_, rfl, _, rfl⟩ | ⟨x, _, _, _, _, _, h6⟩
  · intro n hn; simp at hn
  · exact fun n hn => h6 n (List.mem_of_mem_take hn)
theorem IsRow.src {k : IntKind} {w : World} {a : Option Addr} {len cap : Nat} {zs : List Int} (h : IsRow k w a len cap zs) : Src k w a len (zs.take len) := by
  have hr := h.room
  rcases h with ⟨rfl, rfl, rfl, rfl⟩ | ⟨x, rfl, hl, hm, hz, hc, hw⟩
  · exact ⟨rfl, fun h0 => by omega⟩
  · refine ⟨by simp; omega, fun h0 => ⟨x, rfl, ?_, fun j hj => ?_⟩⟩
    · exact (cell_spot (x := x) (hc 0 (by omega))).2
    · rw [hc j (by omega)]
      simp [List.getD_eq_getElem?_getD, List.getElem?_take_of_lt hj]
theorem IsRow.holds {k : IntKind} {w : World} {a : Option Addr} {len cap : Nat} {zs : List Int} {f : Int × Int → Int} {acc : List (Int × Int)} (h : IsRow k w a len cap zs) (hn : acc.length = len) (hf : ∀ i, i < len → f (acc.getD i (0, 0)) = zs.getD i 0) : HoldsF k w a f acc := fun h0 => by
  rcases h with ⟨rfl, rfl, _, _⟩ | ⟨x, rfl, hl, hm, hz, hc, hw⟩
  · omega
  · have h1 := cell_spot (x := x) (hc 0 (by omega))
    obtain ⟨b, off, spot⟩ := x
    obtain ⟨hs, hb⟩ := h1
    dsimp only at hs hb
    subst hs
    refine ⟨b, off, rfl, hb, fun i hi => ?_⟩
    rw [hf i (by omega), ← hc i (by omega)]
    by_cases e : i = 0
    · subst e; rfl
    · simp [Addr.add, e]
theorem zip_at {l m : List Int} {i n : Nat} (h1 : n ≤ l.length) (h2 : n ≤ m.length) (hi : i < n) : ((l.take n).zip (m.take n)).getD i (0, 0) = (l.getD i 0, m.getD i 0) := by
  have e1 : i < l.length := by omega
  have e2 : i < m.length := by omega
  simp [List.getD_eq_getElem?_getD, List.zip, List.getElem?_zipWith, List.getElem?_take_of_lt hi, e1, e2]

/-! ### STEP 1: THE WALK: the Go text returns true, AND WRITES NOTHING THAT WAS THERE: 'Below w.heap.size w w'' (Derived/Below.lean: '.refl', '.alloc', '.drew', '.setCell' at a new block, '.trans'). Open each 'IsRow' by 'rcases' AHEAD of 'go_enter'; part every test ahead of the walk. -/
theorem walk (a0 : Int) (a1 : Option Addr) (len1 cap1 : Nat) (z1 : List Int) (a2 : Option Addr) (len2 cap2 : Nat) (z2 : List Int) (a3 : Option Addr) (len3 cap3 : Nat) (z3 : List Int) (a4 : Int) (a5 : Int) (w : World) (w0 : (Lit.int .u64 a0).wf = true) (w1 : IsRow .u64 w a1 len1 cap1 z1) (w2 : IsRow .i64 w a2 len2 cap2 z2) (w3 : IsRow .u64 w a3 len3 cap3 z3) (w4 : (Lit.int .i64 a4).wf = true) (w5 : (Lit.int .u64 a5).wf = true) :
    Calls Try.prog 3 #[.int .u64 a0, .slice a1 len1 cap1, .slice a2 len2 cap2, .slice a3 len3 cap3, .int .i64 a4, .int .u64 a5] w fun e w' => e = .returned (.bool true) ∧ Below w.heap.size w w' := by
  have m1 := w1.room
  have m2 := w2.room
  have m3 := w3.room
  by_cases e : len3 = len2
  · subst e
    obtain ⟨acc, hacc⟩ : ∃ acc, acc = (z2.take len3).zip (z3.take len3) := ⟨_, rfl⟩
    have hn : acc.length = len3 := by rw [hacc]; simp; omega
    have hok : ∀ x ∈ acc, okP x := fun x hx => by
      rw [hacc] at hx
      obtain ⟨h1, h2⟩ := List.of_mem_zip hx
      exact ⟨w2.fits _ h1, w3.fits _ h2⟩
    have hT : Two w a2 a3 acc := ⟨w2.holds hn (fun i hi => by rw [hacc, zip_at m2.1 m3.1 hi]), w3.holds hn (fun i hi => by rw [hacc, zip_at m2.1 m3.1 hi])⟩
    have := walk3 a0 a1 len1 cap1 _ a2 cap2 a3 len3 cap3 a4 a5 acc w w1.src (fun _ => hT) m1.2 (by omega) m3.2 hok ⟨w4, w5⟩
    rwa [hn] at this
  · have hn : ((z2.take len2).map fun z => ((z, 0) : Int × Int)).length = len2 := by simp; omega
    have := walk3 a0 a1 len1 cap1 _ a2 cap2 a3 len3 cap3 a4 a5 ((z2.take len2).map fun z => (z, 0)) w w1.src (fun h => absurd (h.trans hn) e) m1.2 (by omega) m3.2 (fun x hx => by
      obtain ⟨z, hz, rfl⟩ := List.mem_map.1 hx
      exact ⟨w2.fits _ hz, by kernel_rfl⟩) ⟨w4, w5⟩
    rwa [hn] at this

/-! ### THE ROW's STEP: WRITTEN OUT: LEAVE IT -/
set_option maxRecDepth 100000 in
theorem lifted (os : Os) (started : os.Started) (H : Type) (enc : TypeId × Value → H) :
    ReturnsInHanded {} Try.checked os 3 .any (Rows.fnCurrentShowsOnlyTheLastPublishSpec.pre6 enc Try.prog Try.f3 Rows.fnCurrentShowsOnlyTheLastPublishRow.domain false) (Rows.fnCurrentShowsOnlyTheLastPublishSpec.post enc Try.prog Try.f3 false true false false) := by
  refine returnsInHanded_of_change (C := Try.checked) own started (by kernel_rfl) Try.func3
    (ChangeSpec.witness6 (enc := enc) (C := Try.checked) false ⟨#[], #[.int .u64 0, .slice none 0 0, .slice none 0 0, .slice none 0 0, .int .i64 0, .int .u64 0], []⟩ 8 (by kernel_rfl) (by kernel_rfl) (by kernel_rfl) (by kernel_rfl)) ?_
  intro W base args ds gs before hval0 hW hcnd _
  have hval : ∀ (j : Nat) t v, Try.f3.params[j]? = some t → args[j]? = some v → Value.okWide Try.prog W .any base t v := hval0
  have hW' := hW
  obtain ⟨p, q, hA0, hV, rfl, hfz, hnd⟩ := hW
  have hA : DataW.TrodAll enc Try.prog W 0 (fun _ => true) true Try.f3.params.toList args.toList ds p := hA0
  rw [Try.params3] at hA hval
  obtain ⟨v0, vs0, d0, ds0, p0, q0, hargs, rfl, rfl, h0, r0⟩ := trodAll_cons hA
  obtain ⟨v1, vs1, d1, ds1, p1, q1, rfl, rfl, rfl, h1, r1⟩ := trodAll_cons r0
  obtain ⟨v2, vs2, d2, ds2, p2, q2, rfl, rfl, rfl, h2, r2⟩ := trodAll_cons r1
  obtain ⟨v3, vs3, d3, ds3, p3, q3, rfl, rfl, rfl, h3, r3⟩ := trodAll_cons r2
  obtain ⟨v4, vs4, d4, ds4, p4, q4, rfl, rfl, rfl, h4, r4⟩ := trodAll_cons r3
  obtain ⟨v5, vs5, d5, ds5, p5, q5, rfl, rfl, rfl, h5, r5⟩ := trodAll_cons r4
  obtain ⟨rfl, rfl, rfl⟩ := trodAll_nil r5
  obtain rfl : args = #[v0, v1, v2, v3, v4, v5] := by cases args; simp_all
  obtain ⟨rfl, rfl⟩ := trodVars_none hV
  obtain ⟨a0, rfl, rfl, rfl, w0⟩ := open_int Try.underlying22 (hval 0 22 v0 rfl rfl) h0
  obtain ⟨a1, len1, cap1, rfl⟩ := okWide_slice Try.underlying23 (hval 1 23 v1 rfl rfl)
  have k1 := h1
  have lt1 : ∀ x ∈ p1, x.block < W.heap.size := by obtain ⟨m, hm⟩ := k1; exact DataW.trod_lt m _ _ _ hm
  obtain ⟨z1, w1⟩ : ∃ zs, IsRow .u64 W a1 len1 cap1 zs := by
    obtain ⟨fuel, hf⟩ := h1
    rcases open_ints Try.underlying23 Try.underlying22 (by kernel_rfl) hf with ⟨hcs, _⟩ | ⟨x, l, c, zs, hcs, _, hl, hm, hz, _, hcell, hwz⟩
    · simp [Value.cells] at hcs
      obtain ⟨rfl, rfl, rfl⟩ := hcs
      exact ⟨[], .inl ⟨rfl, rfl, rfl, rfl⟩⟩
    · simp [Value.cells] at hcs
      obtain ⟨rfl, rfl, rfl⟩ := hcs
      exact ⟨zs, .inr ⟨_, rfl, hl, hm, by simpa using hz, hcell, hwz⟩⟩
  obtain ⟨a2, len2, cap2, rfl⟩ := okWide_slice Try.underlying24 (hval 2 24 v2 rfl rfl)
  have k2 := h2
  have lt2 : ∀ x ∈ p2, x.block < W.heap.size := by obtain ⟨m, hm⟩ := k2; exact DataW.trod_lt m _ _ _ hm
  obtain ⟨z2, w2⟩ : ∃ zs, IsRow .i64 W a2 len2 cap2 zs := by
    obtain ⟨fuel, hf⟩ := h2
    rcases open_ints Try.underlying24 Try.underlying3 (by kernel_rfl) hf with ⟨hcs, _⟩ | ⟨x, l, c, zs, hcs, _, hl, hm, hz, _, hcell, hwz⟩
    · simp [Value.cells] at hcs
      obtain ⟨rfl, rfl, rfl⟩ := hcs
      exact ⟨[], .inl ⟨rfl, rfl, rfl, rfl⟩⟩
    · simp [Value.cells] at hcs
      obtain ⟨rfl, rfl, rfl⟩ := hcs
      exact ⟨zs, .inr ⟨_, rfl, hl, hm, by simpa using hz, hcell, hwz⟩⟩
  obtain ⟨a3, len3, cap3, rfl⟩ := okWide_slice Try.underlying23 (hval 3 23 v3 rfl rfl)
  have k3 := h3
  have lt3 : ∀ x ∈ p3, x.block < W.heap.size := by obtain ⟨m, hm⟩ := k3; exact DataW.trod_lt m _ _ _ hm
  obtain ⟨z3, w3⟩ : ∃ zs, IsRow .u64 W a3 len3 cap3 zs := by
    obtain ⟨fuel, hf⟩ := h3
    rcases open_ints Try.underlying23 Try.underlying22 (by kernel_rfl) hf with ⟨hcs, _⟩ | ⟨x, l, c, zs, hcs, _, hl, hm, hz, _, hcell, hwz⟩
    · simp [Value.cells] at hcs
      obtain ⟨rfl, rfl, rfl⟩ := hcs
      exact ⟨[], .inl ⟨rfl, rfl, rfl, rfl⟩⟩
    · simp [Value.cells] at hcs
      obtain ⟨rfl, rfl, rfl⟩ := hcs
      exact ⟨zs, .inr ⟨_, rfl, hl, hm, by simpa using hz, hcell, hwz⟩⟩
  obtain ⟨a4, rfl, rfl, rfl, w4⟩ := open_int Try.underlying3 (hval 4 3 v4 rfl rfl) h4
  obtain ⟨a5, rfl, rfl, rfl, w5⟩ := open_int Try.underlying22 (hval 5 22 v5 rfl rfl) h5
  clear hA0 hval0
  refine (walk a0 a1 len1 cap1 z1 a2 len2 cap2 z2 a3 len3 cap3 z3 a4 a5 W w0 w1 w2 w3 w4 w5).mono fun e W' ⟨he, bel⟩ => ?_
  subst he
  exact ⟨_, rfl, _, _, _, [], _, [], hW', trodAll_mk1 (shut_bool Try.underlying4 _), (trodAll_cons_mk (shut_int Try.underlying22 w0) (trodAll_cons_mk (Below.trod laidOut (by kernel_rfl) (of_decide_eq_true (by kernel_rfl)) k1 bel lt1) (trodAll_cons_mk (Below.trod laidOut (by kernel_rfl) (of_decide_eq_true (by kernel_rfl)) k2 bel lt2) (trodAll_cons_mk (Below.trod laidOut (by kernel_rfl) (of_decide_eq_true (by kernel_rfl)) k3 bel lt3) (trodAll_cons_mk (shut_int Try.underlying3 w4) (trodAll_cons_mk (shut_int Try.underlying22 w5) trodAll_mk0)))))), rfl, bel.frame _, fun h => by cases h⟩

theorem over : Rows.fnCurrentShowsOnlyTheLastPublishRow.holds Try.pinned (OpenSpec.ofChange Rows.fnCurrentShowsOnlyTheLastPublishSpec) :=
  OpenClaim.holds_of_wide 3 Try.f3 rfl rfl rfl rfl rfl rfl rfl ⟨rfl, rfl, rfl, rfl, rfl⟩ rfl rfl rfl rfl rfl (by kernel_rfl) Try.func3 (by kernel_rfl)
    (of_decide_eq_true (by kernel_rfl)) (by unfold Func.isWrapper; first | (rw [if_pos (by decide +kernel)]; kernel_rfl) | (rw [if_neg (by decide +kernel)]; exact ⟨rfl, rfl⟩))
    (fun os started H enc _ => lifted os started H enc)

/-- ████ THE STATEMENT ████ -/
theorem proved : Rows.FnCurrentShowsOnlyTheLastPublishSaid := over
#print axioms proved
end Go.Proofs.Qxb6614904a.fnCurrentShowsOnlyTheLastPublish
