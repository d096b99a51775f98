/- Several writers: the walk of MultiLevelWriter. -/
import Derived.Test.YtiboiagimcgjkaaDoorMulC
namespace Go.Proofs.YtiboiagimcgjkaaDoor
open Go.RowKit

theorem Tryd.info51 : (Tryd.prog.info? 51).map (fun i => (i.zero, i.size, i.bytes)) = some (some .nilIface, 1, 16) := by kernel_rfl

theorem assert_lw (a : Addr) (W : World) : (Instr.typeAssert (.iface 43 (.pointer (some a))) 45 51 true).run Tryd.prog W = .ok (.tuple #[.iface 43 (.pointer (some a)), .bool true]) W := by kernel_rfl
def wrs (F : Nat → Nat) (j : Nat) : List Value := (List.range j).map fun i => .iface 43 (ptr (F i))
theorem wrs_succ (F : Nat → Nat) (j : Nat) : wrs F (j + 1) = wrs F j ++ [.iface 43 (ptr (F j))] := by
  unfold wrs
  rw [List.range_succ, List.map_append]
  rfl
theorem wsAt_of {w : World} {base g n cap : Nat} {F : Nat → Nat} (h : w.ownsRow base 51 1 (.slice (some ⟨g, 0, none⟩) n cap) n (wrs F n)) : WsAt w g n F := by
  rcases h.2 with ⟨h0, _⟩ | ⟨b, c, cur, h0, hb, hgg, hlen, hpre⟩
  · cases h0
  · injection h0 with h1 h2
    injection h1 with h1
    injection h1 with h1
    subst h1
    refine ⟨cur, hgg, fun i hi => ?_⟩
    have h5 := congrArg (·[i]?) hpre.2.2
    have h6 : (wrs F n)[i]? = some (.iface 43 (ptr (F i))) := by
      unfold wrs
      simp [hi]
    simp only [h6] at h5
    rw [List.getElem?_take_of_lt (by omega)] at h5
    simpa [ptr] using h5

set_option maxRecDepth 100000 in
set_option maxHeartbeats 1600000 in
theorem multi_new (n b c : Nat) (F : Nat → Nat) (w : World) (hw : ∀ i, i < n → w.cell? ⟨b, i, none⟩ = some (.iface 43 (ptr (F i)))) (hb : b < w.heap.size) (hn : n ≤ 100) (h0 : 0 < n) :
    Calls Tryd.prog 15 #[.slice (some ⟨b, 0, none⟩) n c] w fun e w' => (∃ W wc, e = .returned (.iface 72 (.agg #[.slice (some ⟨W, 0, none⟩) n wc])) ∧ WsAt w' W n F) ∧ Below w.heap.size w w' := by
  obtain ⟨i0, hi0, hz0, hz1, hz2⟩ := info_parts Tryd.info51
  obtain ⟨wm, hmk, hom, hgm⟩ := run_makeSlice_owned w w.heap.size 69 51 i0 .nilIface 1 Tryd.underlying69 hi0 hz0 hz1   .i64 .i64 n (by omega) (by rw [hz2]; omega) (by unfold maxLen; omega) (Nat.le_refl _)
  have HW := Lib.hid hw
  have hta := assert_lw
  have HM := Lib.hid (And.intro hom hgm)
  clear hw hom hgm
  go_enter Tryd.func15, Tryd.ntmps15
  go_wp2_with fail
  go_loopw [3, 13] (fun v i wr => ∃ (j g cap : Nat), v = .slice (some ⟨g, 0, none⟩) j cap ∧ i = .int .i64 j ∧ j ≤ n ∧ Hid (wr.ownsRow w.heap.size 51 1 (.slice (some ⟨g, 0, none⟩) j cap) j (wrs F j) ∧ Below w.heap.size w wr)) (fun _ i _ => n - (intOf i).toNat)
  case atStart => exact ⟨0, w.heap.size, n, rfl, rfl, Nat.zero_le _, Lib.hid ⟨HM.out.1, (Keeps.of_grown HM.out.2 (S := fun _ => False) (fun k hk => by cases hk)).below (Nat.le_refl _) (fun _ h => h.elim)⟩⟩
  case round =>
    obtain ⟨j, g, cap, rfl, rfl, hj, HR⟩ := hrel
    by_cases hjn : j < n
    · have hc : wr.cell? ⟨b, j, none⟩ = some (.iface 43 (ptr (F j))) := (HR.out.2.cell (p := ⟨b, j, none⟩) hb).trans (HW.out j hjn)
      unfold ptr at hc
      have hsz := HR.out.2.size
      go_wp2_with (first
        | (at_builtin; refine wpList_append_lies _ rfl _ _ 69 rfl w.heap.size 51 i0 _ 1 16 Tryd.underlying69 hi0 hz0 hz1 hz2 rfl (by omega) _ j (wrs F j) rfl (HR.out.1.alloc _) ⟨wr.heap.size, 0, none⟩ 1 1 [.iface 43 (ptr (F j))] rfl rfl (World.news_of_block (cs := #[.iface 43 (ptr (F j))]) (t := 51) (fr := (0, 0)) (heap_alloc_new wr _)) (by simp [Value.oneCell']) (by omega) (by unfold maxLen; omega) (by omega) (by simp; omega) (wr.heap.size + 1) (by simp) ?_; intro g' cap' w1 hown1 hgrow hat hlt))
      go_roundw
      case rel =>
        refine ⟨j + 1, g', cap', rfl, by go_num, by omega, Lib.hid ⟨by rw [wrs_succ]; exact hown1, ?_⟩⟩
        have hS : ∀ k, (Value.slice (some ⟨g, 0, none⟩) j cap).ownBlock = some k → w.heap.size ≤ k := fun k hk => (own_typed HR.out.1 hk).2
        exact HR.out.2.trans ((((Keeps.refl (fun k => w.heap.size ≤ k) wr).alloc _).trans ((Keeps.of_grown hgrow (fun k hk => hk)).mono hS)).below hsz (fun _ h => h))
      case measure => simp [intOf]; omega
    · obtain rfl : j = n := by omega
      go_wp2_with fail
      go_ret
      exact ⟨⟨g, cap, rfl, wsAt_of HR.out.1⟩, HR.out.2⟩
end Go.Proofs.YtiboiagimcgjkaaDoor
