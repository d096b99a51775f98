/- How a layout is parted: every step that the eleven layouts take. -/
import Derived.Test.YtggebombeflmhaaDoorLayTa
import Derived.Test.YtggebombeflmhaaDoorLayTb
import Derived.Test.YtggebombeflmhaaDoorLayTc
import Derived.Test.YtggebombeflmhaaDoorLayG
import Derived.Test.YtggebombeflmhaaDoorLayH
namespace Go.Proofs.YtggebombeflmhaaDoor
open Go.RowKit

/-- What one step comes to. -/
def Step (p : List UInt8) (t : Tok) (R : List UInt8) (w : World) (e : Ending) (w' : World) : Prop :=
  e = .returned (.tuple #[.string ⟨p.toArray⟩, .int .i64 (tokCode t), .string ⟨R.toArray⟩]) ∧ Below w.heap.size w w'
theorem head_cons {R : List UInt8} {c : UInt8} (h : R.head? = some c) : ∃ r, R = c :: r := by
  cases R with
  | nil => cases h
  | cons x r => exact ⟨r, by simpa using h⟩

theorem chunk_any (p : List UInt8) (t : Tok) (R : List UInt8) (h : pairOk p t R = true) (s : ByteArray) (hs : s.data.toList = p ++ (tokText t ++ R)) (h60 : s.size ≤ 60) (w : World) (hT : Tabs w) :
    Calls Tryd.prog 35 #[.string s] w (Step p t R w) := by
  have tab : ∀ i, i < 6 → w.cell? ⟨0, i, none⟩ = some (.int .i64 (stdTab i)) := hT.std
  cases t <;> simp only [pairOk, Bool.and_eq_true, Bool.or_eq_true, beq_iff_eq, decide_eq_true_eq] at h
  case mon =>
    obtain ⟨rfl, h4, hh | hh⟩ := h
    · obtain ⟨r, rfl⟩ := head_cons hh
      exact (chunk_mon_s s r hs (by simpa using h4) h60 w)
    · obtain ⟨r, rfl⟩ := head_cons hh
      exact (chunk_mon_c s r hs (by simpa using h4) h60 w)
  case jan =>
    obtain ⟨rfl | rfl, h4, hh⟩ := h
    · obtain ⟨r, rfl⟩ := head_cons hh
      exact (chunk_jan_e s r hs (by simpa using h4) h60 w)
    · obtain ⟨r, rfl⟩ := head_cons hh
      exact (chunk_jan_s s r hs (by simpa using h4) h60 w)
  case under =>
    obtain ⟨rfl, h4, hh⟩ := h
    obtain ⟨r, rfl⟩ := head_cons hh
    exact (chunk_under s r hs (by simpa using h4) h60 w)
  case hour =>
    rcases h with rfl | rfl
    · exact (chunk_hour_e s R hs h60 w)
    · exact (chunk_hour_s s R hs h60 w)
  case min =>
    subst h
    exact (chunk_min s R hs h60 w (tab 3 (by decide)))
  case sec =>
    subst h
    exact (chunk_sec s R hs h60 w (tab 4 (by decide)))
  case year =>
    rcases h with rfl | rfl
    · exact (chunk_year_e s R hs h60 w)
    · exact (chunk_year_s s R hs h60 w)
  case day =>
    rcases h with rfl | rfl | ⟨rfl, rfl | rfl⟩
    · exact (chunk_day_e s R hs h60 w (tab 1 (by decide)))
    · exact (chunk_day_c s R hs h60 w (tab 1 (by decide)))
    · exact (chunk_dayd_e s hs h60 w (tab 1 (by decide)))
    · exact (chunk_dayd_l s hs h60 w (tab 1 (by decide)))
  case mond =>
    obtain ⟨rfl, rfl | rfl⟩ := h
    · exact (chunk_mond_e s hs h60 w (tab 0 (by decide)))
    · exact (chunk_mond_l s hs h60 w (tab 0 (by decide)))
  case yr =>
    subst h
    exact (chunk_yr s R hs h60 w (tab 5 (by decide)))
  case zone =>
    obtain ⟨rfl, rfl⟩ := h
    exact (chunk_zone s hs h60 w)
  case h12 =>
    subst h
    exact (chunk_h12 s R hs h60 w)
  case pm =>
    subst h
    exact (chunk_pm s R hs h60 w)
  case ms =>
    obtain ⟨rfl, rfl⟩ := h
    exact (chunk_ms s hs w)
  case us =>
    obtain ⟨rfl, rfl⟩ := h
    exact (chunk_us s hs w)
end Go.Proofs.YtggebombeflmhaaDoor
