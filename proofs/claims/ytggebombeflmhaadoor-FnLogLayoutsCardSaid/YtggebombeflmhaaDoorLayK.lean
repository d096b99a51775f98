/- Layouts as lists of tokens, and what they write: no program in sight. -/
import Derived.Test.YtggebombeflmhaaDoorLayC
import Derived.Test.YtggebombeflmhaaDoorLayP
namespace Go.Proofs.YtggebombeflmhaaDoor
open Go.RowKit

inductive Tok | mon | jan | under | hour | min | sec | year | day | mond | yr | zone | h12 | pm | ms | us
  deriving DecidableEq

def tokText : Tok → List UInt8
  | .mon => [77, 111, 110]
  | .jan => [74, 97, 110]
  | .under => [95, 50]
  | .hour => [49, 53]
  | .min => [48, 52]
  | .sec => [48, 53]
  | .year => [50, 48, 48, 54]
  | .day => [48, 50]
  | .mond => [48, 49]
  | .yr => [48, 54]
  | .zone => [45, 48, 55, 48, 48]
  | .h12 => [51]
  | .pm => [80, 77]
  | .ms => [46, 48, 48, 48]
  | .us => [46, 48, 48, 48, 48, 48, 48]
def tokCode : Tok → Int
  | .mon => 262
  | .jan => 258
  | .under => 264
  | .hour => 1036
  | .min => 1040
  | .sec => 1042
  | .year => 275
  | .day => 265
  | .mond => 260
  | .yr => 276
  | .zone => 29
  | .h12 => 1037
  | .pm => 1045
  | .ms => 196642
  | .us => 393250

def text : List (List UInt8 × Tok) → List UInt8
  | [] => []
  | (p, t) :: r => p ++ (tokText t ++ text r)

/-- Whether a token may stand so: ahead of it p, behind it R. -/
def pairOk (p : List UInt8) (t : Tok) (R : List UInt8) : Bool :=
  match t with
  | .mon => p == [] && (decide (4 ≤ R.length) && (R.head? == some 32 || R.head? == some 44))
  | .jan => (p == [] || p == [32]) && (decide (4 ≤ R.length) && R.head? == some 32)
  | .under => p == [32] && (decide (4 ≤ R.length) && R.head? == some 32)
  | .hour => p == [] || p == [32]
  | .min => p == [58]
  | .sec => p == [58]
  | .year => p == [] || p == [32]
  | .day => p == [] || (p == [44, 32] || (p == [45] && (R == [] || R == [32, 49, 53, 58, 48, 52, 58, 48, 53])))
  | .mond => p == [45] && (R == [45, 48, 50] || R == [45, 48, 50, 32, 49, 53, 58, 48, 52, 58, 48, 53])
  | .yr => p == [32]
  | .zone => p == [32] && R == []
  | .h12 => p == []
  | .pm => p == []
  | .ms => p == [] && R == []
  | .us => p == [] && R == []
def good : List (List UInt8 × Tok) → Bool
  | [] => true
  | (p, t) :: r => pairOk p t (text r) && good r

/-- The eleven layouts. -/
def layC : Nat → List (List UInt8 × Tok)
  | 0 => [([], .mon), ([32], .jan), ([32], .under), ([32], .hour), ([58], .min), ([58], .sec), ([32], .year)]
  | 1 => [([], .mon), ([32], .jan), ([32], .under), ([32], .hour), ([58], .min), ([58], .sec)]
  | 2 => [([], .day), ([32], .jan), ([32], .yr), ([32], .hour), ([58], .min), ([32], .zone)]
  | 3 => [([], .mon), ([44, 32], .day), ([32], .jan), ([32], .year), ([32], .hour), ([58], .min), ([58], .sec), ([32], .zone)]
  | 4 => [([], .h12), ([58], .min), ([], .pm)]
  | 5 => [([], .jan), ([32], .under), ([32], .hour), ([58], .min), ([58], .sec)]
  | 6 => [([], .jan), ([32], .under), ([32], .hour), ([58], .min), ([58], .sec), ([], .ms)]
  | 7 => [([], .jan), ([32], .under), ([32], .hour), ([58], .min), ([58], .sec), ([], .us)]
  | 8 => [([], .year), ([45], .mond), ([45], .day), ([32], .hour), ([58], .min), ([58], .sec)]
  | 9 => [([], .year), ([45], .mond), ([45], .day)]
  | _ => [([], .hour), ([58], .min), ([58], .sec)]
theorem layC_good (k : Nat) : good (layC k) = true := by
  match k with
  | 0 | 1 | 2 | 3 | 4 | 5 | 6 | 7 | 8 | 9 => decide
  | n + 10 => rw [show layC (n + 10) = layC 10 from rfl]; decide

/-- The first three letters of a day's and of a month's name. -/
def wk3 : Nat → List UInt8
  | 0 => [83, 117, 110]
  | 1 => [77, 111, 110]
  | 2 => [84, 117, 101]
  | 3 => [87, 101, 100]
  | 4 => [84, 104, 117]
  | 5 => [70, 114, 105]
  | _ => [83, 97, 116]
def mo3 : Nat → List UInt8
  | 1 => [74, 97, 110]
  | 2 => [70, 101, 98]
  | 3 => [77, 97, 114]
  | 4 => [65, 112, 114]
  | 5 => [77, 97, 121]
  | 6 => [74, 117, 110]
  | 7 => [74, 117, 108]
  | 8 => [65, 117, 103]
  | 9 => [83, 101, 112]
  | 10 => [79, 99, 116]
  | 11 => [78, 111, 118]
  | _ => [68, 101, 99]
theorem wk3_len (k : Nat) : (wk3 k).length = 3 := by
  unfold wk3
  split <;> rfl
theorem mo3_len (k : Nat) : (mo3 k).length = 3 := by
  unfold mo3
  split <;> rfl

/-- Nine digits. -/
def d9 (x : Nat) : List UInt8 := zeros (9 - (digs x).length) ++ digs x
theorem d9_len {x : Nat} (h : x < 1000000000) : (d9 x).length = 9 := by
  have := digs_len (k := 9) (v := x) (by decide) (by omega)
  have := digs_pos x
  unfold d9 zeros
  simp
  omega

/-- What a zone's minutes (ahead of UTC) are written as. -/
def zoneOf (mm : Int) : List UInt8 := (if mm < 0 then 45 else 43) :: (d2 (mm.natAbs / 60) ++ d2 (mm.natAbs % 60))
def hr12 (h : Nat) : Nat := if h % 12 = 0 then 12 else h % 12
/-- What a token writes on day N (since March 1 of the year 0), at second s, nanosecond F, in a zone of mm minutes. -/
def shown (N s F : Nat) (mm : Int) : Tok → List UInt8
  | .mon => wk3 ((N + 3) % 7)
  | .jan => mo3 (civM N)
  | .under => (if civD N < 10 then [32] else []) ++ digs (civD N)
  | .hour => d2 (s / 3600)
  | .min => d2 (s % 3600 / 60)
  | .sec => d2 (s % 60)
  | .year => d4 (civY N)
  | .day => d2 (civD N)
  | .mond => d2 (civM N)
  | .yr => d2 (civY N % 100)
  | .zone => zoneOf mm
  | .h12 => digs (hr12 (s / 3600))
  | .pm => if s / 3600 < 12 then [65, 77] else [80, 77]
  | .ms => 46 :: (d9 F).take 3
  | .us => 46 :: (d9 F).take 6
def render (N s F : Nat) (mm : Int) : List (List UInt8 × Tok) → List UInt8
  | [] => []
  | (p, t) :: r => p ++ (shown N s F mm t ++ render N s F mm r)

def most : Tok → Nat
  | .mon => 3
  | .jan => 3
  | .year => 4
  | .zone => 5
  | .ms => 4
  | .us => 7
  | _ => 2
theorem digs_two {x : Nat} (h : x < 100) : (digs x).length ≤ 2 := digs_len (k := 2) (by decide) (by omega)
theorem shown_le {N s F : Nat} (mm : Int) (hF : F < 1000000000) (t : Tok) : (shown N s F mm t).length ≤ most t := by
  have hc := civ_bounds N
  have h9 := d9_len hF
  cases t <;> simp only [shown, most, wk3_len, mo3_len, d2, d4, zoneOf, List.length_cons, List.length_nil, List.length_append, List.length_take] <;> try omega
  case under =>
    by_cases h : civD N < 10
    · rw [if_pos h]
      have := digs_len (v := civD N) (k := 1) (by decide) (by omega)
      simp; omega
    · rw [if_neg h]
      have := digs_two (x := civD N) (by omega)
      simp; omega
  case h12 =>
    refine digs_two ?_
    unfold hr12
    split <;> omega
  case pm => split <;> decide
theorem render_le {N s F : Nat} (mm : Int) (hF : F < 1000000000) : ∀ l : List (List UInt8 × Tok), (render N s F mm l).length ≤ (l.map fun c => c.1.length + most c.2).sum
  | [] => by simp [render]
  | (p, t) :: r => by
    have h1 := shown_le (N := N) (s := s) mm hF t
    have h2 := render_le (N := N) (s := s) mm hF r
    simp only [render, List.length_append, List.map_cons, List.sum_cons]
    omega
theorem layC_le {N s F : Nat} (mm : Int) (hF : F < 1000000000) (k : Nat) : (render N s F mm (layC k)).length ≤ 32 := by
  refine Nat.le_trans (render_le mm hF _) ?_
  match k with
  | 0 | 1 | 2 | 3 | 4 | 5 | 6 | 7 | 8 | 9 => decide
  | n + 10 => rw [show layC (n + 10) = layC 10 from rfl]; decide
end Go.Proofs.YtggebombeflmhaaDoor
