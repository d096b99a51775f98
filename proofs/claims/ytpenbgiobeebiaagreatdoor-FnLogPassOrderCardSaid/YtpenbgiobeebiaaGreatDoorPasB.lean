/- The encoder's appends. -/
import Derived.Test.YtpenbgiobeebiaaGreatDoorPasA
namespace Go.Proofs.YtpenbgiobeebiaaGreatDoor
open Go.RowKit

/-- What an append to the buffer leaves. -/
def BufEnd (w : World) (g n : Nat) (l m : List UInt8) (e : Ending) (w' : World) : Prop := e = .returned (.slice (some ⟨g, 0, none⟩) (n + m.length) 500) ∧ Buf w' g (l ++ m) ∧ Keeps (fun k => k = g) w w'
theorem Keeps.skip {S : Nat → Prop} {a b c : World} (h : Keeps (fun _ => False) a b) (k : Keeps S b c) : Keeps S a c := (h.mono fun _ h => h.elim).trans k

set_option maxRecDepth 100000 in
theorem begin_any (g n : Nat) (l : List UInt8) (w : World) (hB : Buf w g l) (hn : l.length = n) (hf : n < 500) :
    Calls Tryz.prog 86 #[.agg #[], .slice (some ⟨g, 0, none⟩) n 500] w (BufEnd w g n l [123]) := by
  have ka : ∀ o p, Keeps (fun _ => False) w ((w.alloc o).alloc p) := fun o p => ((Keeps.refl _ w).alloc o).alloc p
  have HB := Lib.hid (And.intro hB hn)
  clear hB hn
  go_enter Tryz.func86, Tryz.ntmps86
  go_wp2_with (at_builtin; refine wpList_push rfl _ _ rfl rfl g n l 123 ⟨w.heap.size + 1, 0, none⟩ rfl rfl (HB.out.1.keep (ka _ _) id) HB.out.2 hf (by have := new_byte (w.alloc (.cells #[] 58)) 123 123 rfl; simpa using this) ?_; intro w1 hB1 hK1; have H1 := Lib.hid (And.intro hB1 hK1); clear hB1 hK1)
  go_ret
  exact ⟨rfl, H1.out.1, (ka _ _).skip H1.out.2⟩
set_option maxRecDepth 100000 in
theorem end_any (g n : Nat) (l : List UInt8) (w : World) (hB : Buf w g l) (hn : l.length = n) (hf : n < 500) :
    Calls Tryz.prog 92 #[.agg #[], .slice (some ⟨g, 0, none⟩) n 500] w (BufEnd w g n l [125]) := by
  have ka : ∀ o p, Keeps (fun _ => False) w ((w.alloc o).alloc p) := fun o p => ((Keeps.refl _ w).alloc o).alloc p
  have HB := Lib.hid (And.intro hB hn)
  clear hB hn
  go_enter Tryz.func92, Tryz.ntmps92
  go_wp2_with (at_builtin; refine wpList_push rfl _ _ rfl rfl g n l 125 ⟨w.heap.size + 1, 0, none⟩ rfl rfl (HB.out.1.keep (ka _ _) id) HB.out.2 hf (by have := new_byte (w.alloc (.cells #[] 58)) 125 125 rfl; simpa using this) ?_; intro w1 hB1 hK1; have H1 := Lib.hid (And.intro hB1 hK1); clear hB1 hK1)
  go_ret
  exact ⟨rfl, H1.out.1, (ka _ _).skip H1.out.2⟩
set_option maxRecDepth 100000 in
theorem line_any (g n : Nat) (l : List UInt8) (w : World) (hB : Buf w g l) (hn : l.length = n) (hf : n < 500) :
    Calls Tryz.prog 113 #[.agg #[], .slice (some ⟨g, 0, none⟩) n 500] w (BufEnd w g n l [10]) := by
  have ka : ∀ o p, Keeps (fun _ => False) w ((w.alloc o).alloc p) := fun o p => ((Keeps.refl _ w).alloc o).alloc p
  have HB := Lib.hid (And.intro hB hn)
  clear hB hn
  go_enter Tryz.func113, Tryz.ntmps113
  go_wp2_with (at_builtin; refine wpList_push rfl _ _ rfl rfl g n l 10 ⟨w.heap.size + 1, 0, none⟩ rfl rfl (HB.out.1.keep (ka _ _) id) HB.out.2 hf (by have := new_byte (w.alloc (.cells #[] 58)) 10 10 rfl; simpa using this) ?_; intro w1 hB1 hK1; have H1 := Lib.hid (And.intro hB1 hK1); clear hB1 hK1)
  go_ret
  exact ⟨rfl, H1.out.1, (ka _ _).skip H1.out.2⟩

set_option maxRecDepth 100000 in
theorem noesc_yes (y : Nat) (w : World) (h1 : 32 ≤ y) (h2 : y ≤ 126) (h3 : y ≠ 92) (h4 : y ≠ 34) :
    Calls Tryz.prog 133 #[.int .u8 (y : Int)] w fun e w' => e = .returned (.bool true) ∧ w = w' := by
  have e1 : ((y : Int) != 92) = true := by simp; omega
  have e2 : ((y : Int) != 34) = true := by simp; omega
  have e3 : ((y : Int) == 92) = false := by simp; omega
  have e4 : ((y : Int) == 34) = false := by simp; omega
  go_enter Tryz.func133, Tryz.ntmps133
  go_wp2_with fail
  go_ret
  exact ⟨rfl, rfl⟩
def PlainStr (t : ByteArray) : Prop := ∀ b ∈ t.data.toList, 32 ≤ b.toNat ∧ b.toNat ≤ 126 ∧ b.toNat ≠ 92 ∧ b.toNat ≠ 34
set_option maxRecDepth 10000 in
theorem plain_at (s : ByteArray) (hs : PlainStr s) (i : Nat) (hi : i < s.size) : ∃ y : Nat, (32 ≤ y ∧ y ≤ 126 ∧ y ≠ 92 ∧ y ≠ 34) ∧ ∀ W, (Instr.index 9 (.string s) (.int .i64 (i : Int))).run Tryz.prog W = .ok (.int .u8 (y : Int)) W := by
  refine ⟨(s.data.toList[i]'(by simpa using hi)).toNat, hs _ (List.getElem_mem _), fun W => ?_⟩
  rw [run_index_string W 9 s .i64 (i : Int) rfl, dif_pos ⟨by omega, by omega⟩]
  simp
  rfl

set_option maxRecDepth 100000 in
set_option maxHeartbeats 4000000 in
theorem string_any (g n k : Nat) (l m M : List UInt8) (t : ByteArray) (w : World) (hM : [34] ++ m ++ [34] = M) (hB : Buf w g l) (hn : l.length = n) (hm : t.data.toList = m) (hk : m.length = k) (hp : PlainStr t) (hf : n + k + 2 ≤ 500) :
    Calls Tryz.prog 117 #[.agg #[], .slice (some ⟨g, 0, none⟩) n 500, .string t] w (BufEnd w g n l M) := by
  have HM := Lib.hid hM
  clear hM
  have ka : ∀ o p, Keeps (fun _ => False) w ((w.alloc o).alloc p) := fun o p => ((Keeps.refl _ w).alloc o).alloc p
  have hz : t.size = k := by rw [← hk, ← hm]; simp
  have HB := Lib.hid (And.intro hB (And.intro hn (And.intro hm (And.intro hk hp))))
  have hts : t.size ≤ 500 := by omega
  have HZ := Lib.hid hz
  clear hB hn hm hk hp hz
  go_enter Tryz.func117, Tryz.ntmps117
  go_wp2_with (first | (at_builtin; refine wpList_push rfl _ _ rfl rfl g n l 34 ⟨w.heap.size + 1, 0, none⟩ rfl rfl (HB.out.1.keep (ka _ _) id) HB.out.2.1 (by omega) (by have := new_byte (w.alloc (.cells #[] 58)) 34 34 rfl; simpa using this) ?_; intro w1 hB1 hK1; have H1 := Lib.hid (And.intro hB1 ((ka _ _).skip hK1)); clear hB1 hK1))
  go_loop [1, 7] (fun d i => ∃ j : Nat, i = .int .i64 j ∧ d = .slice (some ⟨g, 0, none⟩) (n + 1) 500 ∧ j ≤ t.size) (fun _ i => t.size - (intOf i).toNat)
  case atStart => exact ⟨0, rfl, rfl, Nat.zero_le _⟩
  case round =>
    obtain ⟨j, rfl, rfl, hj⟩ := hrel
    by_cases hjt : j < t.size
    · obtain ⟨y, ⟨y1, y2, y3, y4⟩, hy⟩ := plain_at t HB.out.2.2.2.2 j hjt
      have c133 := noesc_yes y w1 y1 y2 y3 y4
      have C133 := Lib.hid c133
      clear c133 y3 y4
      go_wp2_with (first | (go_at_call 133; refine C133.out.mono ?_; rintro e w' ⟨rfl, rfl⟩))
      exact ⟨⟨j + 1, by go_num, rfl, by omega⟩, by simp [intOf]; omega⟩
    · obtain rfl : j = t.size := by omega
      have hn1 : (l ++ [34]).length = n + 1 := by rw [List.length_append, HB.out.2.1]; rfl
      have HN1 := Lib.hid hn1
      clear hn1
      go_wp2_with (first
        | (at_builtin; refine wpList_text rfl _ _ rfl rfl g (n + 1) k (l ++ [34]) m t rfl rfl H1.out.1 HN1.out HB.out.2.2.1 HB.out.2.2.2.1 (by omega) ?_; intro w2 hB2 hK2; have H2 := Lib.hid (And.intro hB2 hK2); clear hB2 hK2)
        | (at_builtin; refine wpList_push rfl _ _ rfl rfl g (n + 1 + k) (l ++ [34] ++ m) 34 ⟨w2.heap.size, 0, none⟩ rfl rfl (H2.out.1.alloc _) (by rw [List.length_append, HN1.out, HB.out.2.2.2.1]) (by omega) (new_byte w2 34 34 rfl) ?_; intro w3 hB3 hK3; have H3 := Lib.hid (And.intro hB3 hK3); clear hB3 hK3))
      go_ret
      have hl := HB.out.2.2.2.1
      have hML : M.length = k + 2 := by rw [← HM.out]; simp [hl]
      refine ⟨?_, ?_, ?_⟩
      · show Ending.returned (.slice _ (n + 1 + k + 1) 500) = _
        rw [hML]
        congr 2
        omega
      · have := H3.out.1
        rw [List.append_assoc, List.append_assoc, ← List.append_assoc [34], HM.out] at this
        exact this
      · exact H1.out.2.trans (H2.out.2.trans (((Keeps.refl (fun _ => False) w2).alloc _).skip H3.out.2))

set_option maxRecDepth 100000 in
set_option maxHeartbeats 4000000 in
theorem key_first (g n k : Nat) (l m M : List UInt8) (t : ByteArray) (w : World) (hM : [34] ++ m ++ [34] ++ [58] = M) (hB : Buf w g (l ++ [123])) (hn : l.length = n) (hm : t.data.toList = m) (hk : m.length = k) (hp : PlainStr t) (hf : n + k + 4 ≤ 500) :
    Calls Tryz.prog 112 #[.agg #[], .slice (some ⟨g, 0, none⟩) (n + 1) 500, .string t] w (BufEnd w g (n + 1) (l ++ [123]) M) := by
  have ka : ∀ o, Keeps (fun _ => False) w (w.alloc o) := fun o => (Keeps.refl _ w).alloc o
  have hn1 : (l ++ [123]).length = n + 1 := by rw [List.length_append, hn]; rfl
  have c0 : w.cell? ⟨g, n, none⟩ = some (.int .u8 123) := by
    have := hB.cell n (by omega)
    rw [this]
    congr 1
    show Value.int .u8 ((l ++ [123])[n].toNat : Int) = _
    rw [List.getElem_append_right (by omega)]
    simp
  obtain ⟨M1, hM1⟩ : ∃ M1, [34] ++ m ++ [34] = M1 := ⟨_, rfl⟩
  have hML : M1.length = k + 2 := by rw [← hM1]; simp [hk]
  have c117 := string_any g (n + 1) k (l ++ [123]) m M1 t (w.alloc (.cells #[] 58)) hM1 (hB.keep (ka _) id) hn1 hm hk hp (by omega)
  rw [hM1] at hM
  obtain ⟨L0, hL0⟩ : ∃ L0, L0 = l ++ [123] := ⟨_, rfl⟩
  rw [← hL0] at hB hn1 c117
  rw [← hL0]
  unfold BufEnd at c117
  rw [hML] at c117
  have HB := Lib.hid (And.intro hB (And.intro hn1 (And.intro hML hM)))
  have hgl := hB.lt
  have C117 := Lib.hid c117
  clear hB hn hm hk hp c117 hn1 hM hM1 hL0 hML
  go_enter Tryz.func112, Tryz.ntmps112
  go_wp2_with (first
    | (go_at_call 117; refine C117.out.mono ?_; rintro e w1 ⟨rfl, hB1, hK1⟩; have H1 := Lib.hid (And.intro hB1 ((ka _).skip hK1)); clear hB1 hK1)
    | (at_builtin; refine wpList_push rfl _ _ rfl rfl g (n + 1 + (k + 2)) (L0 ++ M1) 58 ⟨w1.heap.size, 0, none⟩ rfl rfl (H1.out.1.alloc _) (by rw [List.length_append, HB.out.2.1, HB.out.2.2.1]) (by omega) (new_byte w1 58 58 rfl) ?_; intro w3 hB3 hK3; have H3 := Lib.hid (And.intro hB3 hK3); clear hB3 hK3))
  go_ret
  refine ⟨?_, ?_, ?_⟩
  · rw [← HB.out.2.2.2, List.length_append, HB.out.2.2.1]
    rfl
  · have := H3.out.1
    rw [List.append_assoc, HB.out.2.2.2] at this
    exact this
  · exact H1.out.2.trans (((Keeps.refl (fun _ => False) w1).alloc _).skip H3.out.2)

set_option maxRecDepth 100000 in
set_option maxHeartbeats 4000000 in
theorem key_next (g n k : Nat) (l m M : List UInt8) (c : UInt8) (t : ByteArray) (w : World) (hM : [44] ++ ([34] ++ m ++ [34]) ++ [58] = M) (hB : Buf w g (l ++ [c])) (hc : c ≠ 123) (hn : l.length = n) (hm : t.data.toList = m) (hk : m.length = k) (hp : PlainStr t) (hf : n + k + 5 ≤ 500) :
    Calls Tryz.prog 112 #[.agg #[], .slice (some ⟨g, 0, none⟩) (n + 1) 500, .string t] w (BufEnd w g (n + 1) (l ++ [c]) M) := by
  have ka : ∀ o p, Keeps (fun _ => False) w ((w.alloc o).alloc p) := fun o p => ((Keeps.refl _ w).alloc o).alloc p
  have hn1 : (l ++ [c]).length = n + 1 := by rw [List.length_append, hn]; rfl
  have c0 : w.cell? ⟨g, n, none⟩ = some (.int .u8 (c.toNat : Int)) := by
    have := hB.cell n (by omega)
    rw [this]
    congr 1
    show Value.int .u8 ((l ++ [c])[n].toNat : Int) = _
    rw [List.getElem_append_right (by omega)]
    simp [hn]
  have hcn : ((c.toNat : Int) != 123) = true := by
    rw [bne_iff_ne]
    intro e
    have e2 : c.toNat = 123 := by omega
    exact hc (UInt8.toNat.inj e2)
  have hcn2 : ((c.toNat : Int) == 123) = false := by
    rw [bne] at hcn
    simpa using hcn
  obtain ⟨M1, hM1⟩ : ∃ M1, [34] ++ m ++ [34] = M1 := ⟨_, rfl⟩
  have hML : M1.length = k + 2 := by rw [← hM1]; simp [hk]
  obtain ⟨L0, hL0⟩ : ∃ L0, L0 = l ++ [c] := ⟨_, rfl⟩
  rw [← hL0] at hB hn1
  rw [← hL0]
  generalize c.toNat = cv at c0 hcn hcn2
  have c117 : ∀ W, Buf W g (L0 ++ [44]) → Calls Tryz.prog 117 #[.agg #[], .slice (some ⟨g, 0, none⟩) (n + 1 + 1) 500, .string t] W fun e w' => e = .returned (.slice (some ⟨g, 0, none⟩) (n + 1 + 1 + (k + 2)) 500) ∧ Buf w' g (L0 ++ [44] ++ M1) ∧ Keeps (fun k => k = g) W w' := fun W hW => by
    have h := string_any g (n + 1 + 1) k (L0 ++ [44]) m M1 t W hM1 hW (by rw [List.length_append, hn1]; rfl) hm hk hp (by omega)
    unfold BufEnd at h
    rw [hML] at h
    exact h
  rw [hM1] at hM
  have HB := Lib.hid (And.intro hB (And.intro hn1 (And.intro hML hM)))
  have hgl := hB.lt
  have C117 := Lib.hid c117
  clear hB hn hm hk hp c117 hn1 hc hM hM1 hL0 hML
  go_enter Tryz.func112, Tryz.ntmps112
  go_wp2_with (first
    | (at_builtin; refine wpList_push rfl _ _ rfl rfl g (n + 1) L0 44 ⟨w.heap.size + 1, 0, none⟩ rfl rfl (HB.out.1.keep (ka _ _) id) HB.out.2.1 (by omega) (by have := new_byte (w.alloc (.cells #[] 58)) 44 44 rfl; simpa using this) ?_; intro w0 hB0 hK0; have H0 := Lib.hid (And.intro hB0 ((ka _ _).skip hK0)); clear hB0 hK0)
    | (go_at_call 117; refine (C117.out _ H0.out.1).mono ?_; rintro e w1 ⟨rfl, hB1, hK1⟩; have H1 := Lib.hid (And.intro hB1 hK1); clear hB1 hK1)
    | (at_builtin; refine wpList_push rfl _ _ rfl rfl g (n + 1 + 1 + (k + 2)) (L0 ++ [44] ++ M1) 58 ⟨w1.heap.size, 0, none⟩ rfl rfl (H1.out.1.alloc _) (by rw [List.length_append, List.length_append, HB.out.2.1, HB.out.2.2.1]; rfl) (by omega) (new_byte w1 58 58 rfl) ?_; intro w3 hB3 hK3; have H3 := Lib.hid (And.intro hB3 hK3); clear hB3 hK3))
  go_ret
  refine ⟨?_, ?_, ?_⟩
  · have hl : M.length = k + 4 := by rw [← HB.out.2.2.2, List.length_append, List.length_append, HB.out.2.2.1]; simp; omega
    rw [hl]
    show Ending.returned (.slice _ (n + 1 + 1 + (k + 2) + 1) 500) = _
    congr 2
    omega
  · have := H3.out.1
    rw [List.append_assoc, List.append_assoc, ← List.append_assoc [44], HB.out.2.2.2] at this
    exact this
  · exact H0.out.2.trans (H1.out.2.trans (((Keeps.refl (fun _ => False) w1).alloc _).skip H3.out.2))
end Go.Proofs.YtpenbgiobeebiaaGreatDoor
