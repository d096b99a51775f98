/- A time by a layout: the plain words of the great walk. -/
import Derived.Test.YtggebombeflmhaaDoorLayF
import Derived.Test.YtggebombeflmhaaDoorLayH
import Derived.Test.YtggebombeflmhaaDoorLayL
namespace Go.Proofs.YtggebombeflmhaaDoor
open Go.RowKit

def needD : Tok → Bool
  | .mon | .jan | .under | .year | .day | .mond | .yr => true
  | _ => false
def needC : Tok → Bool
  | .hour | .min | .sec | .h12 | .pm => true
  | _ => false
theorem code_date (t : Tok) (h : needD t = true) : bits .and .i64 (tokCode t) 256 = 256 := by cases t <;> first | (cases h; done) | decide +kernel
theorem code_nodate (t : Tok) (h : needD t = false) : bits .and .i64 (tokCode t) 256 = 0 := by cases t <;> first | (cases h; done) | decide +kernel
theorem code_yday (t : Tok) : bits .and .i64 (tokCode t) 512 = 0 := by cases t <;> decide +kernel
theorem code_clock (t : Tok) (h : needC t = true) : bits .and .i64 (tokCode t) 1024 = 1024 := by cases t <;> first | (cases h; done) | decide +kernel
theorem code_noclock (t : Tok) (h : needC t = false) : bits .and .i64 (tokCode t) 1024 = 0 := by cases t <;> first | (cases h; done) | decide +kernel
theorem code_pos (t : Tok) : 0 < tokCode t ∧ tokCode t < 400000 := by cases t <;> decide
def lowCode : Tok → Int
  | .ms => 34
  | .us => 34
  | t => tokCode t
theorem code_low (t : Tok) : bits .and .i64 (tokCode t) 65535 = lowCode t := by cases t <;> decide +kernel

def strLen : Value → Nat
  | .string s => s.size
  | _ => 0
theorem text_size (s : ByteArray) (l : List (List UInt8 × Tok)) (h : s.data.toList = text l) : s.size = (text l).length := by
  have : s.size = s.data.toList.length := by simp
  rw [this, h]
theorem bytes_ext {s : ByteArray} (h : s.data.toList = []) : s = ⟨#[]⟩ := by
  obtain ⟨d⟩ := s
  have : d = #[] := Array.toList_eq_nil_iff.1 h
  rw [this]
theorem tokText_pos (t : Tok) : 0 < (tokText t).length := by cases t <;> decide
theorem text_cons_pos (p : List UInt8) (t : Tok) (r : List (List UInt8 × Tok)) : (text r).length < (text ((p, t) :: r)).length := by
  have := tokText_pos t
  simp only [text, List.length_append]
  omega

/-- The date's slots: not yet asked, or the date. -/
def DateV (Y M D : Int) (y m d : Value) : Prop := (y = .int .i64 (-1) ∧ m = .int .i64 0 ∧ d = .int .i64 0) ∨ (y = .int .i64 Y ∧ m = .int .i64 M ∧ d = .int .i64 D)

section
variable (b N s F : Nat) (mm : Int) (C : List (List UInt8 × Tok)) (wA : World)
/-- So far written: n bytes; what is left makes the whole. -/
def St (left : List UInt8) (n : Nat) (w : World) : Prop :=
  ∃ acc : List UInt8, acc.length = n ∧ Buf w b acc ∧ Keeps (· = b) wA w ∧ acc ++ left = render N s F mm C
end
section
variable {b N s F : Nat} {mm : Int} {C : List (List UInt8 × Tok)} {wA : World}
theorem St.le {left : List UInt8} {n : Nat} {w : World} (h : St b N s F mm C wA left n w) (h32 : (render N s F mm C).length ≤ 32) : n + left.length ≤ 32 := by
  obtain ⟨acc, rfl, _, _, h4⟩ := h
  rw [← h4, List.length_append] at h32
  exact h32
/-- A piece of what is left is put. -/
theorem St.put {left m acc : List UInt8} {n k : Nat} {w w' : World} {e : Ending} (hm : m.length = k) (hn : acc.length = n) (hk : Keeps (· = b) wA w) (hl : acc ++ (m ++ left) = render N s F mm C) (h : Put b (acc ++ m) w e w') :
    e = .returned (.slice (some ⟨b, 0, none⟩) (n + k) 64) ∧ St b N s F mm C wA left (n + k) w' := by
  subst hm
  obtain ⟨he, hb, hk2⟩ := h
  have hlen : (acc ++ m).length = n + m.length := by rw [List.length_append, hn]
  refine ⟨by rw [he, hlen], acc ++ m, hlen, hb, hk.trans hk2, by rw [List.append_assoc]; exact hl⟩
/-- A piece of what is left is put by an append. -/
theorem St.cells {left m acc : List UInt8} {n k : Nat} {w w1 : World} (hm : m.length = k) (hn : acc.length = n) (hk : Keeps (· = b) wA w) (hl : acc ++ (m ++ left) = render N s F mm C) (hb : Buf w1 b acc) (hk1 : Keeps (· = b) w w1) (h64 : n + k ≤ 64) :
    St b N s F mm C wA left (n + k) (w1.setCells b n (m.map byteV)) := by
  subst hm
  exact ⟨acc ++ m, by rw [List.length_append, hn], hb.puts m n hn h64, hk.trans (hk1.setCells _ n (.inl rfl)), by rw [List.append_assoc]; exact hl⟩
end
/-- What the walk comes to. -/
def Done (b N s F : Nat) (mm : Int) (C : List (List UInt8 × Tok)) (w0 : World) (e : Ending) (w' : World) : Prop :=
  (e = .returned (.slice (some ⟨b, 0, none⟩) (render N s F mm C).length 64) ∧ Buf w' b (render N s F mm C)) ∧ Below w0.heap.size w0 w'
theorem St.time {b N s F : Nat} {mm S off : Int} {C : List (List UInt8 × Tok)} {w wr : World} {left : List UInt8} {n : Nat} (h : St b N s F mm C (w.alloc (timeC S F off)) left n wr) (hb : b < w.heap.size) (i : Nat) :
    wr.cell? ⟨w.heap.size, i, none⟩ = (#[.int .i64 (S + 62135596800), .int .i32 F, .string ⟨#[]⟩, .int .i64 off] : Array Value)[i]? := by
  obtain ⟨acc, _, _, hk, _⟩ := h
  rw [hk.cell (p := ⟨w.heap.size, i, none⟩) (by simp) (by simp; omega)]
  unfold timeC
  exact (Whole.new w 30 _).cell i
theorem St.below {b N s F : Nat} {mm S off : Int} {C : List (List UInt8 × Tok)} {w0 w wr : World} {left : List UInt8} {n : Nat} (h : St b N s F mm C (w.alloc (timeC S F off)) left n wr) (hB : Below w0.heap.size w0 w) (hb : w0.heap.size ≤ b) : Below w0.heap.size w0 wr := by
  obtain ⟨acc, _, _, hk, _⟩ := h
  have h1 := hB.alloc hB.size (timeC S F off)
  exact h1.trans (hk.below h1.size (fun k hk => by omega))
theorem St.step {b N s F : Nat} {mm : Int} {C : List (List UInt8 × Tok)} {wA w w' : World} {left : List UInt8} {n : Nat} (h : St b N s F mm C wA left n w) (hb : Below w.heap.size w w') : St b N s F mm C wA left n w' := by
  obtain ⟨acc, h1, h2, h3, h4⟩ := h
  have hk := Keeps.of_below hb (fun k => False)
  exact ⟨acc, h1, h2.keep hk id, h3.trans (hk.mono fun _ h => h.elim), h4⟩
theorem St.done {b N s F : Nat} {mm S off : Int} {C : List (List UInt8 × Tok)} {w0 w wr : World} {n : Nat} (h : St b N s F mm C (w.alloc (timeC S F off)) [] n wr) (hB : Below w0.heap.size w0 w) (hb : w0.heap.size ≤ b) : Done b N s F mm C w0 (.returned (.slice (some ⟨b, 0, none⟩) n 64)) wr := by
  have h5 := h.below hB hb
  obtain ⟨acc, h1, h2, h3, h4⟩ := h
  rw [List.append_nil] at h4
  subst h4
  exact ⟨⟨by rw [h1], h2⟩, h5⟩
/-- All that the walk takes from elsewhere. -/
structure Env (N s F : Nat) (mm S off Y M D hh mi c wk A Dv : Int) (ms m3 ds d3 : ByteArray) : Prop where
  hF : F < 1000000000
  m0 : -840 ≤ mm
  m1 : mm ≤ 840
  quo : off.tdiv 60 = mm
  offm : off = 60 * mm
  Y0 : 1000 ≤ Y
  Y1 : Y ≤ 9999
  M0 : 1 ≤ M
  M1 : M ≤ 12
  D0 : 1 ≤ D
  D1 : D ≤ 31
  h0 : 0 ≤ hh
  h1 : hh < 24
  i0 : 0 ≤ mi
  i1 : mi < 60
  c0 : 0 ≤ c
  c1 : c < 60
  year : d4 Y.toNat = shown N s F mm .year
  yr : d2 (Y % 100).toNat = shown N s F mm .yr
  mond : d2 M.toNat = shown N s F mm .mond
  day : d2 D.toNat = shown N s F mm .day
  under : (if D < 10 then [32] else []) ++ digs D.toNat = shown N s F mm .under
  hour : d2 hh.toNat = shown N s F mm .hour
  min : d2 mi.toNat = shown N s F mm .min
  sec : d2 c.toNat = shown N s F mm .sec
  h12 : digs (hr12 hh.toNat) = shown N s F mm .h12
  pm : (if hh < 12 then [65, 77] else [80, 77]) = shown N s F mm .pm
  mon : d3.data.toList = shown N s F mm .mon
  jan : m3.data.toList = shown N s F mm .jan
  loc : ∀ W, Calls Tryd.prog 27 #[timeV S F off] W fun e w' => e = .returned (.tuple #[.string ⟨#[]⟩, .int .i64 off, .int .u64 A]) ∧ Below W.heap.size W w'
  days : ∀ W, Calls Tryd.prog 28 #[.int .u64 A] W fun e w' => e = .returned (.int .u64 Dv) ∧ W = w'
  date : ∀ W, Calls Tryd.prog 29 #[.int .u64 Dv] W fun e w' => e = .returned (.tuple #[.int .i64 Y, .int .i64 M, .int .i64 D]) ∧ W = w'
  clock : ∀ W, Calls Tryd.prog 31 #[.int .u64 A] W fun e w' => e = .returned (.tuple #[.int .i64 hh, .int .i64 mi, .int .i64 c]) ∧ W = w'
  week : ∀ W, Calls Tryd.prog 38 #[.int .u64 Dv] W fun e w' => e = .returned (.int .i64 wk) ∧ W = w'
  month : ∀ W, Tabs W → Calls Tryd.prog 37 #[.int .i64 M] W fun e w' => e = .returned (.string ms) ∧ W = w'
  dayn : ∀ W, Tabs W → Calls Tryd.prog 39 #[.int .i64 wk] W fun e w' => e = .returned (.string ds) ∧ W = w'
  sm : ∀ W, (Instr.slice 9 (.string ms) none (some (.int .i64 3)) none).run Tryd.prog W = .ok (.string m3) W
  sd : ∀ W, (Instr.slice 9 (.string ds) none (some (.int .i64 3)) none).run Tryd.prog W = .ok (.string d3) W
theorem shown3 (N s F : Nat) (mm : Int) (t : Tok) (h : t = .mon ∨ t = .jan) : (shown N s F mm t).length = 3 := by
  rcases h with rfl | rfl
  · exact wk3_len _
  · exact mo3_len _
end Go.Proofs.YtggebombeflmhaaDoor
