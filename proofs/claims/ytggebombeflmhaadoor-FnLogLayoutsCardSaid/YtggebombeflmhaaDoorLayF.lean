/- Fractions of a second, the offset, the absolute seconds: walks. -/
import Derived.Test.YtggebombeflmhaaDoorLayE
import Derived.Test.YtggebombeflmhaaDoorLayU
import Derived.Test.YtggebombeflmhaaDoorLayK
import Derived.Deep.DeepCutAuto
import Derived.BigQuiet
import Derived.Deep.RegionHeld3
namespace Go.Proofs.YtggebombeflmhaaDoor
open Go.RowKit

theorem frac_code3 (w : World) : Calls Tryd.prog 32 #[.int .i64 34, .int .i64 3, .int .i64 46] w fun e w' => e = .returned (.int .i64 196642) ∧ w = w' := by
  have b1 : bits .and .i64 3 4095 = 3 := by decide +kernel
  have b2 : bits .or .i64 34 196608 = 196642 := by decide +kernel
  go_enter Tryd.func32, Tryd.ntmps32
  go_wp2_with fail
  go_ret
  exact ⟨rfl, rfl⟩
theorem frac_code6 (w : World) : Calls Tryd.prog 32 #[.int .i64 34, .int .i64 6, .int .i64 46] w fun e w' => e = .returned (.int .i64 393250) ∧ w = w' := by
  have b1 : bits .and .i64 6 4095 = 6 := by decide +kernel
  have b2 : bits .or .i64 34 393216 = 393250 := by decide +kernel
  go_enter Tryd.func32, Tryd.ntmps32
  go_wp2_with fail
  go_ret
  exact ⟨rfl, rfl⟩
theorem digit_end (s : ByteArray) (i : Nat) (h : s.size ≤ i) (_h60 : i ≤ 60) (w : World) : Calls Tryd.prog 55 #[.string s, .int .i64 (i : Int)] w fun e w' => e = .returned (.bool false) ∧ w = w' := by
  go_enter Tryd.func55, Tryd.ntmps55
  go_wp2_with fail
  go_ret
  exact ⟨rfl, rfl⟩
theorem sep_any (c : Int) (hc : c = 196642 ∨ c = 393250) (w : World) : Calls Tryd.prog 52 #[.int .i64 c] w fun e w' => e = .returned (.int .u8 46) ∧ w = w' := by
  rcases hc with rfl | rfl
  all_goals
    go_enter Tryd.func52, Tryd.ntmps52
    go_wp2_with fail
    go_ret
    exact ⟨rfl, rfl⟩
theorem len3 (w : World) : Calls Tryd.prog 51 #[.int .i64 196642] w fun e w' => e = .returned (.int .i64 3) ∧ w = w' := by
  have b1 : bits .and .i64 3 4095 = 3 := by decide +kernel
  go_enter Tryd.func51, Tryd.ntmps51
  go_wp2_with fail
  go_ret
  exact ⟨rfl, rfl⟩
theorem len6 (w : World) : Calls Tryd.prog 51 #[.int .i64 393250] w fun e w' => e = .returned (.int .i64 6) ∧ w = w' := by
  have b1 : bits .and .i64 6 4095 = 6 := by decide +kernel
  go_enter Tryd.func51, Tryd.ntmps51
  go_wp2_with fail
  go_ret
  exact ⟨rfl, rfl⟩
theorem below2 {w0 w : World} (h : Below w0.heap.size w0 w) (a b : Obj) : Below w0.heap.size w0 ((w.alloc a).alloc b) := (h.alloc h.size a).alloc (h.alloc h.size a).size b
theorem nano_any (S F off : Int) (h0 : 0 ≤ F) (h1 : F < 1000000000) (w0 w : World) (hB : Below w0.heap.size w0 w) : Calls Tryd.prog 34 #[timeV S F off] w fun e w' => e = .returned (.int .i64 F) ∧ Below w0.heap.size w0 w' := by
  unfold timeV
  go_enter Tryd.func34, Tryd.ntmps34
  go_wp2_with (first | (go_at_call 53; go_in))
  go_ret
  exact ⟨rfl, below2 hB _ _⟩
def timeC (S F off : Int) : Obj := .cells #[.int .i64 (S + 62135596800), .int .i32 F, .string ⟨#[]⟩, .int .i64 off] 30
theorem unix_any (S F off : Int) (h0 : -5000000000 ≤ S) (h1 : S ≤ 5000000000) (w : World) : Calls Tryd.prog 44 #[timeV S F off] w fun e w' => e = .returned (.int .i64 S) ∧ w' = (w.alloc (timeC S F off)).alloc (timeC S F off) := by
  unfold timeV
  go_enter Tryd.func44, Tryd.ntmps44
  go_wp2_with (first | (go_at_call 65; go_in))
  go_ret
  exact ⟨ret_int (by omega), rfl⟩
theorem loc_any (S F off : Int) (N s : Int) (h0 : -5000000000 ≤ S) (h1 : S ≤ 5000000000) (ho0 : -60000 ≤ off) (ho1 : off ≤ 60000) (hs : S + off = 86400 * (N - 719468) + s) (w0 w : World) (hB : Below w0.heap.size w0 w) :
    Calls Tryd.prog 27 #[timeV S F off] w fun e w' => e = .returned (.tuple #[.string ⟨#[]⟩, .int .i64 off, .int .u64 (86400 * (N + 106751990353932) + s)]) ∧ Below w0.heap.size w0 w' := by
  have HS := Lib.hid hs
  obtain ⟨A, hA⟩ : ∃ A : Int, A = S + off + 9223372028741760000 := ⟨_, rfl⟩
  have HA := Lib.hid hA
  rw [show 86400 * (N + 106751990353932) + s = A by omega]
  clear hs hA
  unfold timeV
  go_enter Tryd.func27, Tryd.ntmps27
  go_wp2_with fail
  go_region_held3 (fun w' => w'.cell? ⟨w.heap.size, 0, none⟩ = some (.int .i64 (S + 62135596800)) ∧ w'.cell? ⟨w.heap.size, 1, none⟩ = some (.int .i32 F) ∧ w'.cell? ⟨w.heap.size, 2, none⟩ = some (.string ⟨#[]⟩) ∧ w'.cell? ⟨w.heap.size, 3, none⟩ = some (.int .i64 off)) (go_keep)
    (first | (go_at_call 44; refine (unix_any S F off h0 h1 _).mono ?_; rintro e w' ⟨rfl, rfl⟩))
  go_wp2_with fail
  go_returns
  refine ⟨?_, Below.drew ((below2 (hB.alloc hB.size _) _ _))⟩
  show Ending.returned (.tuple #[.string ⟨#[]⟩, .int .i64 off, .int .u64 (IntKind.u64.wrap (IntKind.i64.wrap (IntKind.i64.wrap (S + off) + 9223372028741760000)))]) = _
  rw [IntWalk.i64_in (S + off) ⟨by omega, by omega⟩, IntWalk.i64_in (S + off + 9223372028741760000) ⟨by omega, by omega⟩, IntWalk.u64_in _ ⟨by omega, by omega⟩, ← HA.out]

theorem Buf.take {w : World} {b : Nat} {l : List UInt8} (h : Buf w b l) (k : Nat) : Buf w b (l.take k) := by
  obtain ⟨cs, t, hw, hs, hl, hc⟩ := h
  refine ⟨cs, t, hw, hs, by simp; omega, fun i hi => ?_⟩
  have hi' : i < l.length := by simp at hi; omega
  rw [hc i hi', List.getElem_take]

theorem int_nine (b n : Nat) (x : Int) (l : List UInt8) (h0 : 0 ≤ x) (h1 : x < 1000000000) (hn : l.length = n) (h64 : n + 9 ≤ 64) (w : World) (hB : Buf w b l) :
    Calls Tryd.prog 30 #[.slice (some ⟨b, 0, none⟩) n 64, .int .i64 x, .int .i64 9] w fun e w' => (e = .returned (.slice (some ⟨b, 0, none⟩) (n + 9) 64) ∧ Buf w' b (l ++ d9 x.toNat)) ∧ Keeps (· = b) w w' :=
  (int_wide b n x 9 l h0 h1 (.inr rfl) hn h64 w hB).mono fun e w' h => by
    obtain ⟨he, hb, hk⟩ := h
    refine ⟨⟨?_, hb⟩, hk⟩
    rw [he]
    have e9 := d9_len (x := x.toNat) (by omega)
    have : (l ++ (zeros (9 - (digs x.toNat).length) ++ digs x.toNat)).length = n + 9 := by
      rw [List.length_append, hn]
      exact congrArg _ e9
    rw [this]
theorem int_none (b n : Nat) (x : Int) (l : List UInt8) (h0 : 0 ≤ x) (h1 : x < 1000000000) (hn : l.length = n) (h64 : n + 9 ≤ 64) (w : World) (hB : Buf w b l) :
    Calls Tryd.prog 30 #[.slice (some ⟨b, 0, none⟩) n 64, .int .i64 x, .int .i64 0] w fun e w' => Put b (l ++ digs x.toNat) w e w' :=
  (int_wide b n x 0 l h0 h1 (.inl rfl) hn h64 w hB).mono fun e w' h => by
    rw [Nat.zero_sub] at h
    exact h

theorem nano_end {b n k : Nat} {F : Int} {l : List UInt8} {w w1 : World} {o : Obj} (hn : l.length = n) (hk : k ≤ 9) (h0 : 0 ≤ F) (h1 : F < 1000000000) (hb : Buf w1 b (l ++ [46] ++ d9 F.toNat)) (hK : Keeps (· = b) ((w.alloc o).setCells b n (List.map byteV [46])) w1) :
    Put b (l ++ 46 :: (d9 F.toNat).take k) w (.returned (.slice (some ⟨b, 0, none⟩) (n + 1 + k) 64)) w1 := by
  have e9 := d9_len (x := F.toNat) (by omega)
  have e : l ++ 46 :: (d9 F.toNat).take k = (l ++ [46] ++ d9 F.toNat).take (n + 1 + k) := by
    rw [List.append_assoc, List.take_append, hn, show l.take (n + 1 + k) = l from List.take_of_length_le (by omega), show n + 1 + k - n = k + 1 by omega]
    rfl
  have hk2 : Keeps (· = b) w ((w.alloc o).setCells b n (List.map byteV [46])) := ((Keeps.refl (· = b) w).alloc o).setCells _ n (.inl rfl)
  refine ⟨?_, ?_, hk2.trans hK⟩
  · rw [e]
    have : ((l ++ [46] ++ d9 F.toNat).take (n + 1 + k)).length = n + 1 + k := by simp; omega
    rw [this]
  · rw [e]
    exact hb.take _

set_option maxRecDepth 100000 in
set_option maxHeartbeats 1000000 in
theorem nano_app (b n : Nat) (F : Int) (k : Nat) (l : List UInt8) (hk : k = 3 ∨ k = 6) (h0 : 0 ≤ F) (h1 : F < 1000000000) (hn : l.length = n) (h64 : n + 10 ≤ 64) (w : World) (hB : Buf w b l) :
    Calls Tryd.prog 33 #[.slice (some ⟨b, 0, none⟩) n 64, .int .i64 F, .int .i64 (34 + 65536 * (k : Int))] w fun e w' => Put b (l ++ 46 :: (d9 F.toNat).take k) w e w' := by
  have HB := Lib.hid hB
  have HN := Lib.hid hn
  have b3 : bits .and .i64 196642 65535 = 34 := by decide +kernel
  have b6 : bits .and .i64 393250 65535 = 34 := by decide +kernel
  clear hB hn
  rcases hk with rfl | rfl
  · go_enter Tryd.func33, Tryd.ntmps33
    go_wp2_with (first
      | (go_at_call 51; refine (len3 _).mono ?_; rintro e w' ⟨rfl, rfl⟩)
      | (go_at_call 52; refine (sep_any _ (.inl rfl) _).mono ?_; rintro e w' ⟨rfl, rfl⟩)
      | (at_builtin; refine Lib.wpList_append_run _ rfl _ _ 43 43 rfl _ _ rfl rfl _ _ (buf_append (m := [46]) (HB.out.alloc _) rfl (by omega) (new_cells _ _ _ rfl)) ?_))
    refine (int_nine b (n + 1) F (l ++ [46]) h0 h1 (by simp [HN.out]) (by omega) _ ((HB.out.alloc _).puts [46] n HN.out (by simp; omega))).mono ?_
    rintro e w1 ⟨⟨rfl, hb⟩, hk⟩
    have HH := Lib.hid (And.intro hb hk)
    clear hb hk
    go_wp2_with fail
    go_ret
    exact nano_end HN.out (by decide) h0 h1 HH.out.1 HH.out.2
  · go_enter Tryd.func33, Tryd.ntmps33
    go_wp2_with (first
      | (go_at_call 51; refine (len6 _).mono ?_; rintro e w' ⟨rfl, rfl⟩)
      | (go_at_call 52; refine (sep_any _ (.inr rfl) _).mono ?_; rintro e w' ⟨rfl, rfl⟩)
      | (at_builtin; refine Lib.wpList_append_run _ rfl _ _ 43 43 rfl _ _ rfl rfl _ _ (buf_append (m := [46]) (HB.out.alloc _) rfl (by omega) (new_cells _ _ _ rfl)) ?_))
    refine (int_nine b (n + 1) F (l ++ [46]) h0 h1 (by simp [HN.out]) (by omega) _ ((HB.out.alloc _).puts [46] n HN.out (by simp; omega))).mono ?_
    rintro e w1 ⟨⟨rfl, hb⟩, hk⟩
    have HH := Lib.hid (And.intro hb hk)
    clear hb hk
    go_wp2_with fail
    go_ret
    exact nano_end HN.out (by decide) h0 h1 HH.out.1 HH.out.2
end Go.Proofs.YtggebombeflmhaaDoor
