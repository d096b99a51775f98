/- A writer that holds lines back: what it holds; a line written from the middle of a row. -/
import Derived.Test.YtiboiagimcgjkaaDoorTriB
import Derived.Test.YtiboiagimcgjkaaDoorTriP
import Derived.Stop.Asserts
namespace Go.Proofs.YtiboiagimcgjkaaDoor
open Go.RowKit

/-- The bytes l lie in block g from o on. -/
def BA (w : World) (g o : Nat) (l : List UInt8) : Prop := g < w.heap.size ∧ ∀ i (h : i < l.length), w.cell? ⟨g, o + i, none⟩ = some (.int .u8 (l[i].toNat : Int))
theorem BA.keep {S : Nat → Prop} {w w' : World} {g o : Nat} {l : List UInt8} (h : BA w g o l) (k : Keeps S w w') (hg : ¬ S g) : BA w' g o l :=
  ⟨Nat.lt_of_lt_of_le h.1 k.size, fun i hi => (k.cell (p := ⟨g, o + i, none⟩) h.1 hg).trans (h.2 i hi)⟩
theorem BB.ba {w : World} {g : Nat} {l : List UInt8} (h : BB w g l) : BA w g 0 l := ⟨h.1, fun i hi => by rw [Nat.zero_add]; exact h.2.1 i hi⟩
theorem BA.drop {w : World} {g o : Nat} {a l : List UInt8} (h : BA w g o (a ++ l)) (k : Nat) (hk : a.length = k) : BA w g (o + k) l := by
  subst hk
  refine ⟨h.1, fun i hi => ?_⟩
  have := h.2 (a.length + i) (by rw [List.length_append]; omega)
  rw [show o + a.length + i = o + (a.length + i) by omega, this]
  congr 3
  rw [List.getElem_append_right (by omega)]
  simp
theorem BA.take {w : World} {g o : Nat} {a l : List UInt8} (h : BA w g o (a ++ l)) : BA w g o a := by
  refine ⟨h.1, fun i hi => ?_⟩
  have := h.2 i (by rw [List.length_append]; omega)
  rw [this, List.getElem_append_left hi]
theorem conv_string_at {W : World} {g o : Nat} {l : List UInt8} (h : BA W g o l) (n cap : Nat) (hn : l.length = n) : (convert 59 9 (.slice (some ⟨g, o, none⟩) n cap)).run Tryd.prog W = .ok (.string ⟨l.toArray⟩) W := by
  have hz : (⟨l.toArray⟩ : ByteArray).size = n := by show l.toArray.size = n; simpa using hn
  have := Lib.run_convert_whole (P := Tryd.prog) W 59 5 9 Tryd.underlying59 Tryd.underlying5 Tryd.underlying9 g o ⟨l.toArray⟩ (fun i hi => by
    have hi' : i < l.length := by rw [hz] at hi; omega
    rw [h.2 i hi']
    rfl) cap
  rw [hz] at this
  exact this

set_option maxRecDepth 100000 in
set_option maxHeartbeats 1600000 in
theorem lines_write_at (L : Nat) (rows : List (List UInt8)) (ob : Option Nat) (pb po k cap base : Nat) (l : List UInt8) (w : World) (hLA : LinesAt w base L rows ob) (hP : BA w pb po l) (hk : l.length = k) (hn : rows.length ≤ 1000) (hbase : base ≤ w.heap.size) :
    Calls Tryd.prog 83 #[.pointer (some ⟨L, 0, none⟩), .slice (some ⟨pb, po, none⟩) k cap] w fun e w' => e = .returned (.tuple #[.int .i64 k, .nilIface]) ∧ Wrote w base L (rows ++ [l]) ob w' := by
  obtain ⟨v, hL, hO, hob, hne⟩ := hLA
  obtain ⟨n, hnr⟩ : ∃ n, rows.length = n := ⟨_, rfl⟩
  rw [hnr] at hO hn
  obtain ⟨xs, hxs⟩ : ∃ xs, xs = rows.map str := ⟨_, rfl⟩
  rw [← hxs] at hO
  have HOB := Lib.hid (And.intro hnr (And.intro hob (And.intro hne hxs)))
  rw [← hob] at hne
  clear hob hnr hxs
  obtain ⟨i0, hi0, hz0, hz1, hz2⟩ := info_parts Tryd.info9
  have hc : w.cell? ⟨L, 0, none⟩ = some v := hL.cell 0
  have hfz := hL.frozen 0
  have lg := hL.lt
  obtain ⟨t, ht⟩ : ∃ t : ByteArray, t = ⟨l.toArray⟩ := ⟨_, rfl⟩
  have hcw : (convert 59 9 (.slice (some ⟨pb, po, none⟩) k cap)).run Tryd.prog w = .ok (.string t) w := by rw [ht]; exact conv_string_at hP k cap hk
  have hcd : (convert 59 9 (.slice (some ⟨pb, po, none⟩) k cap)).run Tryd.prog w.drew = .ok (.string t) w.drew := by rw [ht]; exact conv_string_at (W := w.drew) hP k cap hk
  have HT := Lib.hid ht
  have HL := Lib.hid hL
  have HO := Lib.hid hO
  have HK := Lib.hid hk
  have HNE := Lib.hid hne
  clear ht hL hO hP hk hne
  go_enter Tryd.func83, Tryd.ntmps83
  go_wp2_with fail
  go_region_law
    ((refine step_append_lies _ (by rfl) _ _ _ (by rfl) base 9 i0 _ 1 16 Tryd.underlying28 hi0 hz0 hz1 hz2 rfl (by omega) v n xs (by rfl) ((HO.out.alloc _).drew)
        ⟨w.heap.size, 0, none⟩ 1 1 [.string t] (by rfl) (by rfl) (World.news_of_block (cs := #[.string t]) (t := 9) (fr := (0, 0)) (heap_alloc_new w _)) (by simp [Value.oneCell'])
        (by omega) (by unfold maxLen; omega) (by omega) (by simp; omega) (w.heap.size + 1) (by simp) ?_; intro gg gcap w1 hown1 hgrow hat hlt; have hL1 := (HL.out.alloc (.cells #[.string t] 9)).drew.grown hgrow HNE.out; have hx0 := hL1.cell 0; have hx1 := hL1.frozen 0))
  all_goals
    go_wp2_with fail
    go_returns
    refine ⟨rfl, ?_⟩
    obtain ⟨h1, h2, h3, h4⟩ := HOB.out
    refine wrote_of h1 h2 h3 lg ?_ hgrow hat hL1
    rw [← h4, show str l = .string t by rw [HT.out]; rfl]
    exact hown1

/-- A level as a byte. -/
def lvb (lv : Int) : UInt8 := UInt8.ofNat (IntKind.u8.wrap lv).toNat
theorem lvb_val (lv : Int) : ((lvb lv).toNat : Int) = IntKind.u8.wrap lv := by
  have h := IntKind.wrap_u8 lv
  have h1 := Int.emod_nonneg lv (show (256 : Int) ≠ 0 by decide)
  have h2 := Int.emod_lt_of_pos lv (show (0 : Int) < 256 by decide)
  unfold lvb
  rw [UInt8.toNat_ofNat']
  rw [h] at *
  omega
def enc (B : List (Int × List UInt8)) : List UInt8 := B.flatMap fun x => lvb x.1 :: x.2
theorem enc_cons (x : Int × List UInt8) (B : List (Int × List UInt8)) : enc (x :: B) = (lvb x.1 :: x.2) ++ enc B := rfl
theorem enc_snoc (B : List (Int × List UInt8)) (x : Int × List UInt8) : enc (B ++ [x]) = enc B ++ (lvb x.1 :: x.2) := by simp [enc]
/-- A text with one line feed, at its end. -/
def Line (tx : List UInt8) : Prop := ∃ pre, tx = pre ++ [10] ∧ ∀ b ∈ pre, b ≠ 10
theorem index_line : ∀ (pre rest : List UInt8), (∀ b ∈ pre, b ≠ 10) → Lib.indexByte (pre ++ 10 :: rest) 10 = pre.length
  | [], rest, _ => rfl
  | b :: pre, rest, h => by
    have ih := index_line pre rest (fun c hc => h c (List.mem_cons_of_mem _ hc))
    have hb : (b == 10) = false := beq_false_of_ne (h b List.mem_cons_self)
    show (if (b == 10) = true then (0 : Int) else if (Lib.indexByte (pre ++ 10 :: rest) 10 == -1) = true then -1 else Lib.indexByte (pre ++ 10 :: rest) 10 + 1) = _
    rw [hb, ih, if_neg (by simp), if_neg (by simp)]
    simp
theorem index_enc (lv : Int) (tx rest : List UInt8) (hl : lvb lv ≠ 10) (ht : Line tx) : Lib.indexByte ((lvb lv :: tx) ++ rest) 10 = tx.length := by
  obtain ⟨pre, rfl, hp⟩ := ht
  have := index_line (lvb lv :: pre) rest (fun b hb => by
    rcases List.mem_cons.1 hb with rfl | hb
    · exact hl
    · exact hp b hb)
  rw [List.length_append]
  simp only [List.length_cons, List.length_nil] at this ⊢
  rw [← this]
  simp

theorem bytes_ints (l : List UInt8) : Lib.bytesOf (l.map fun b => (b.toNat : Int)) = l := by
  unfold Lib.bytesOf
  rw [List.map_map]
  conv => rhs; rw [← List.map_id l]
  apply List.map_congr_left
  intro b _
  simp
theorem assert_no (a : Addr) (W : World) : (Instr.typeAssert (.iface 40 (.pointer (some a))) 45 51 true).run Tryd.prog W = .ok (.tuple #[.nilIface, .bool false]) W := run_typeAssert_lacksB Tryd.underlying51 (by kernel_rfl) (by kernel_rfl) _ 45 W

theorem buf_keep {S : Nat → Prop} {w w' : World} {B b : Nat} {bs : List Value} (h : Lib.IsBuffer 86 5 B b bs w) (k : Keeps S w w') (hb : ¬ S b) (hr : ∀ g, Typed w g 5 → ¬ S g) : Lib.IsBuffer 86 5 B b bs w' := by
  obtain ⟨hB, v, lr, hbk, hown, hne⟩ := h
  refine ⟨hB, v, lr, ?_, own_keep hown k (fun g hg => hr g (own_typed hown hg).1), hne⟩
  rw [k.block b (Array.getElem?_eq_some_iff.1 hbk).1 hb]
  exact hbk
/-- What the writer in block TW holds, before the collector in block L. -/
structure TrigAt (w : World) (base TW L : Nat) (cond trig : Int) (s : TS) (ob : Option Nat) : Prop where
  tw : ∃ bp, Whole w TW 66 #[.iface 40 (.pointer (some ⟨L, 0, none⟩)), .int .i8 cond, .int .i8 trig, .pointer bp, .bool s.T] ∧
    (s.T = false → (s.B = [] ∧ bp = none) ∨ (s.B ≠ [] ∧ ∃ b, bp = some ⟨b, 0, none⟩ ∧ Lib.IsBuffer 86 5 base b (Lib.byteCells (enc s.B)) w))
  lin : LinesAt w base L s.O ob
  bT : base ≤ TW
  bL : base ≤ L
/-- What may turn. -/
def Turns3 (w : World) (g : Nat) : Prop := Typed w g 66 ∨ Typed w g 42 ∨ Typed w g 9
end Go.Proofs.YtiboiagimcgjkaaDoor
