/-
  THE CALL's OWN ROWS, FILLED: by a loop, by copy.
-/
import Derived.Test.Qxb6614904aParts
namespace Go.Proofs.Qxb6614904a
open Go.RowKit Go.Maps

theorem two_rows {w0 w : World} {g1 g2 N : Nat} {L : List (Int × Int)} (h1 : Row w0 w .i64 3 Prod.fst g1 N N L) (h2 : Row w0 w .u64 22 Prod.snd g2 N N L) (hN : N = L.length) : Two w (some ⟨g1, 0, none⟩) (some ⟨g2, 0, none⟩) L :=
  ⟨fun _ => ⟨g1, 0, rfl, h1.lt, fun i hi => by rw [Nat.zero_add]; exact h1.at (by omega)⟩, fun _ => ⟨g2, 0, rfl, h2.lt, fun i hi => by rw [Nat.zero_add]; exact h2.at (by omega)⟩⟩

theorem HoldsF.src {q : IntKind} {w : World} {a : Option Addr} {f : Int × Int → Int} {acc : List (Int × Int)} (h : HoldsF q w a f acc) : Src q w a acc.length (acc.map f) := ⟨by simp, fun h0 => by
  obtain ⟨b, off, rfl, hb, hc⟩ := h h0
  refine ⟨_, rfl, hb, fun j hj => ?_⟩
  have e1 : (⟨b, off, none⟩ : Addr).add j = ⟨b, off + j, none⟩ := by
    by_cases e : j = 0
    · subst e; rfl
    · simp [Addr.add, e]
  rw [e1, hc j hj]
  simp [List.getD_eq_getElem?_getD, hj]⟩

theorem getD_app {acc r : List (Int × Int)} {i : Nat} (h : i < acc.length) : (acc ++ r).getD i (0, 0) = acc.getD i (0, 0) := by
  simp [List.getD_eq_getElem?_getD, List.getElem?_append_left h]
theorem getD_last {acc : List (Int × Int)} {y : Int × Int} : (acc ++ [y]).getD acc.length (0, 0) = y := by
  simp [List.getD_eq_getElem?_getD]

/-- A row of the call's own, after a slice was copied into it. -/
theorem Row.copy {T e : TypeId} {q : IntKind} {f : Int × Int → Int} {w0 w : World} {g M cap dCap : Nat} {a : Option Addr} {acc r : List (Int × Int)} (h : Row w0 w q e f g M 0 (acc ++ r)) (hu : Try.prog.underlying T = some (.slice e)) (hs : (Try.prog.info? e).map (·.size) = some 1) (hF : HoldsF q w a f acc) (hM : acc.length ≤ M) :
    ∃ w3, (Builtin.copy_ #[T, T] 3 #[.slice (some ⟨g, 0, none⟩) M dCap, .slice a acc.length cap]).run Try.prog w = .ok (goInt acc.length) w3 ∧ Row w0 w3 q e f g M acc.length (acc ++ r) ∧ w.grownBy w3 (some g) := by
  obtain ⟨cur, h1, h2, _⟩ := h.blk
  obtain ⟨w3, e1, e2, e3⟩ := run_copy_src (T := T) (cap := cap) (dLen := M) (dCap := dCap) hu hs hF.src h1 hM (by omega)
  refine ⟨w3, e1, ⟨h.lo, _, e2, by simp; omega, fun i hi => ?_⟩, e3⟩
  rw [List.getElem?_append_left (by simpa using hi), getD_app hi]
  simp [List.getD_eq_getElem?_getD, hi]

theorem ok_app {acc : List (Int × Int)} {y : Int × Int} (h : ∀ x ∈ acc, okP x) (hy : okP y) : ∀ x ∈ acc ++ [y], okP x := fun x hx => by
  rcases List.mem_append.1 hx with hx | hx
  · exact h x hx
  · rw [List.mem_singleton.1 hx]; exact hy

theorem fit {w0 w : World} {b cm gm B N : Nat} {rv : Value} {L acc : List (Int × Int)} (h : Done w0 w b cm gm B rv L acc) (hN : N = L.length) : N ≤ acc.length := by
  have e1 := len_dcount acc L (asc_nodup h.asc) h.mem
  have e2 := dcount_le acc
  omega
end Go.Proofs.Qxb6614904a
