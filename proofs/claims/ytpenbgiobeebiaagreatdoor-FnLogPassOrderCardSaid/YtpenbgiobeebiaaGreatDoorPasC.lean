/- Lines that are collected: the walk of Write (after the text MulA of the other seat). -/
import Derived.Test.YtpenbgiobeebiaaGreatDoorPasB
import Derived.Test.YtpenbgiobeebiaaGreatDoorMem
import Derived.Test.YtpenbgiobeebiaaGreatDoorKeep
import Derived.Test.YtpenbgiobeebiaaGreatDoorLevP
import Derived.Deep.RegionHeld3
import Derived.Deep.AppendLies
import Derived.Deep.DeepCutAuto
import Derived.StillTactics
import Derived.Deep.RegionLaw
import Derived.OwnWalk
import Derived.OneCell
import Derived.Laws.Pointers
namespace Go.Proofs.YtpenbgiobeebiaaGreatDoor
open Go.RowKit

theorem Tryz.info9 : (Tryz.prog.info? 9).map (fun i => (i.zero, i.size, i.bytes)) = some (some (.string ⟨#[]⟩), 1, 16) := by kernel_rfl

theorem BB.alloc {w : World} {g : Nat} {l : List UInt8} (h : BB w g l) (o : Obj) : BB (w.alloc o) g l := h.below ((Below.refl w.heap.size w).alloc (Nat.le_refl _) o) h.1
theorem BB.drew {w : World} {g : Nat} {l : List UInt8} (h : BB w g l) : BB w.drew g l := h
theorem BB.grown {w w' : World} {g : Nat} {l : List UInt8} {row : Option Nat} (h : BB w g l) (hg : w.grownBy w' row) (hne : row ≠ some g) : BB w' g l :=
  ⟨Nat.lt_of_lt_of_le h.1 hg.size, fun i hi => (hg.cell_far (a := ⟨g, i, none⟩) h.1 (Ne.symm hne)).trans (h.2.1 i hi), fun i hi => (hg.frozen_far (a := ⟨g, i, none⟩) h.1 (Ne.symm hne)).trans (h.2.2 i hi)⟩
theorem Whole.grown {w w' : World} {g : Nat} {t : TypeId} {cs : Array Value} {row : Option Nat} (h : Whole w g t cs) (hg : w.grownBy w' row) (hne : row ≠ some g) : Whole w' g t cs := (hg.block g h.lt (Ne.symm hne)).trans h
def str (l : List UInt8) : Value := .string ⟨l.toArray⟩

/-- Block L is a collector (lines) that holds these texts; ob: the block of its row, if it has one. -/
def LinesAt (w : World) (base L : Nat) (rows : List (List UInt8)) (ob : Option Nat) : Prop :=
  ∃ v, Whole w L 29 #[v] ∧ w.ownsRow base 9 1 v rows.length (rows.map str) ∧ v.ownBlock = ob ∧ ob ≠ some L
/-- What a write leaves. -/
def Wrote (w : World) (base L : Nat) (rows : List (List UInt8)) (ob : Option Nat) (w' : World) : Prop :=
  ∃ ob', LinesAt w' base L rows ob' ∧ (ob' = ob ∨ ∃ g, ob' = some g ∧ w.heap.size ≤ g) ∧ Keeps (fun g => g = L ∨ ob = some g) w w'
theorem wrote_of {w w1 : World} {base L gg n gcap : Nat} {v : Value} {rows : List (List UInt8)} {ob : Option Nat} {l : List UInt8} {o : Obj} (hn : rows.length = n) (hob : v.ownBlock = ob) (hne : ob ≠ some L) (lg : L < w.heap.size)
    (hown : w1.ownsRow base 9 1 (.slice (some ⟨gg, 0, none⟩) (n + 1) gcap) (n + 1) (rows.map str ++ [str l])) (hgrow : (w.alloc o).drew.grownBy w1 v.ownBlock) (hat : v.ownBlock = some gg ∨ gg = w.heap.size + 1) (hL1 : Whole w1 L 29 #[v]) :
    Wrote w base L (rows ++ [l]) ob (w1.setCell ⟨L, 0, none⟩ (.slice (some ⟨gg, 0, none⟩) (n + 1) gcap)) := by
  subst hob
  have hgL : gg ≠ L := by
    rcases hat with h | h
    · rintro rfl
      exact hne h
    · omega
  refine ⟨some gg, ⟨.slice (some ⟨gg, 0, none⟩) (n + 1) gcap, hL1.set 0 _, ?_, rfl, fun e => hgL (by injection e)⟩, ?_, ?_⟩
  · rw [List.length_append, hn, List.map_append]
    exact ownsRow_setCell_other hown (fun e => hgL (by injection e)) _
  · rcases hat with h | h
    · exact .inl h.symm
    · exact .inr ⟨gg, rfl, by omega⟩
  · have h1 : Keeps (fun g => g = L ∨ v.ownBlock = some g) (w.alloc o).drew w1 := Keeps.of_grown hgrow (fun k hk => .inr hk)
    exact ((((Keeps.refl _ w).alloc o).drew).trans h1).set (p := ⟨L, 0, none⟩) (.inl (.inl rfl)) _

set_option maxRecDepth 100000 in
set_option maxHeartbeats 1600000 in
theorem lines_write (L : Nat) (rows : List (List UInt8)) (ob : Option Nat) (pb k cap base : Nat) (l : List UInt8) (w : World) (hLA : LinesAt w base L rows ob) (hP : BB w pb l) (hk : l.length = k) (_hk1 : k ≤ 1000) (hn : rows.length ≤ 1000) (hbase : base ≤ w.heap.size) (hnp : ob ≠ some pb) :
    Calls Tryz.prog 74 #[.pointer (some ⟨L, 0, none⟩), .slice (some ⟨pb, 0, none⟩) k cap] w fun e w' => e = .returned (.tuple #[.int .i64 k, .nilIface]) ∧ Wrote w base L (rows ++ [l]) ob w' := by
  obtain ⟨v, hL, hO, hob, hne⟩ := hLA
  obtain ⟨n, hnr⟩ : ∃ n, rows.length = n := ⟨_, rfl⟩
  rw [hnr] at hO hn
  obtain ⟨xs, hxs⟩ : ∃ xs, xs = rows.map str := ⟨_, rfl⟩
  rw [← hxs] at hO
  have HOB := Lib.hid (And.intro hnr (And.intro hob (And.intro hne hxs)))
  rw [← hob] at hne hnp
  clear hob hnr hxs
  obtain ⟨i0, hi0, hz0, hz1, hz2⟩ := info_parts Tryz.info9
  have hc : w.cell? ⟨L, 0, none⟩ = some v := hL.cell 0
  have hfz := hL.frozen 0
  have lg := hL.lt
  obtain ⟨t, ht⟩ : ∃ t : ByteArray, t = ⟨l.toArray⟩ := ⟨_, rfl⟩
  have hcv : ∀ W, BB W pb l → (convert 45 9 (.slice (some ⟨pb, 0, none⟩) k cap)).run Tryz.prog W = .ok (.string t) W := fun W h => by rw [ht]; exact conv_string h k cap hk
  have HT := Lib.hid ht
  have HL := Lib.hid hL
  have HO := Lib.hid hO
  have HK := Lib.hid hk
  have HNE := Lib.hid hne
  have HNP := Lib.hid hnp
  have HP := Lib.hid hP
  clear ht hL hO hP hk hne hnp
  go_enter Tryz.func74, Tryz.ntmps74
  go_wp2_with fail
  have hcw := hcv w HP.out
  have hcd := hcv w.drew HP.out.drew
  clear hcv
  go_region_law
    ((refine step_append_lies _ (by rfl) _ _ _ (by rfl) base 9 i0 _ 1 16 Tryz.underlying27 hi0 hz0 hz1 hz2 rfl (by omega) v n xs (by rfl) ((HO.out.alloc _).drew)
        ⟨w.heap.size, 0, none⟩ 1 1 [.string t] (by rfl) (by rfl) (World.news_of_block (cs := #[.string t]) (t := 9) (fr := (0, 0)) (heap_alloc_new w _)) (by simp [Value.oneCell'])
        (by omega) (by unfold maxLen; omega) (by omega) (by simp; omega) (w.heap.size + 1) (by simp) ?_; intro gg gcap w1 hown1 hgrow hat hlt; have hL1 := (HL.out.alloc (.cells #[.string t] 9)).drew.grown hgrow HNE.out; have hx0 := hL1.cell 0; have hx1 := hL1.frozen 0))
  all_goals
    go_wp2_with fail
    go_returns
    refine ⟨rfl, ?_⟩
    obtain ⟨h1, h2, h3, h4⟩ := HOB.out
    refine wrote_of h1 h2 h3 lg ?_ hgrow hat hL1
    rw [← h4, show str l = .string t by rw [HT.out]; rfl]
    exact hown1

theorem LinesAt.keep {S : Nat → Prop} {w w' : World} {base L : Nat} {rows : List (List UInt8)} {ob : Option Nat} (h : LinesAt w base L rows ob) (k : Keeps S w w') (hL : ¬ S L) (ho : ∀ g, ob = some g → ¬ S g) : LinesAt w' base L rows ob := by
  obtain ⟨v, h1, h2, h3, h4⟩ := h
  exact ⟨v, h1.keep k hL, own_keep h2 k (fun g hg => ho g (by rw [← h3, hg])), h3, h4⟩
theorem LinesAt.later {w w' : World} {base L : Nat} {rows : List (List UInt8)} {ob : Option Nat} (h : LinesAt w base L rows ob) (k : Keeps (fun _ => False) w w') : LinesAt w' base L rows ob := h.keep k id (fun _ _ => id)
theorem BB.keep {S : Nat → Prop} {w w' : World} {g : Nat} {l : List UInt8} (h : BB w g l) (k : Keeps S w w') (hg : ¬ S g) : BB w' g l :=
  ⟨Nat.lt_of_lt_of_le h.1 k.size, fun i hi => (k.cell (p := ⟨g, i, none⟩) h.1 hg).trans (h.2.1 i hi), fun i hi => (k.frozen (p := ⟨g, i, none⟩) h.1 hg).trans (h.2.2 i hi)⟩
theorem Wrote.before {w w1 w' : World} {base L : Nat} {rows : List (List UInt8)} {ob : Option Nat} (h : Wrote w1 base L rows ob w') (k : Keeps (fun _ => False) w w1) : Wrote w base L rows ob w' := by
  obtain ⟨ob', h1, h2, h3⟩ := h
  refine ⟨ob', h1, ?_, (k.mono fun _ h => h.elim).trans h3⟩
  rcases h2 with h2 | ⟨g, h2, h4⟩
  · exact .inl h2
  · exact .inr ⟨g, h2, Nat.le_trans k.size h4⟩

/-- A collector within an adapter, as a writer of lines with a level. -/
def adV (L : Nat) : Value := .agg #[.iface 26 (.pointer (some ⟨L, 0, none⟩))]
theorem adapter_write (L : Nat) (rows : List (List UInt8)) (ob : Option Nat) (pb k cap base : Nat) (lv : Int) (l : List UInt8) (w : World) (hLA : LinesAt w base L rows ob) (hP : BB w pb l) (hk : l.length = k) (hk1 : k ≤ 1000) (hn : rows.length ≤ 1000) (hbase : base ≤ w.heap.size) (hnp : ob ≠ some pb) :
    Calls Tryz.prog 139 #[adV L, .int .i8 lv, .slice (some ⟨pb, 0, none⟩) k cap] w fun e w' => e = .returned (.tuple #[.int .i64 k, .nilIface]) ∧ Wrote w base L (rows ++ [l]) ob w' := by
  have HA := Lib.hid hLA
  have HP := Lib.hid hP
  have HK := Lib.hid hk
  have HNP := Lib.hid hnp
  clear hLA hP hk hnp
  unfold adV
  go_enter Tryz.func139, Tryz.ntmps139
  go_wp2_with fail
  have ka : ∀ o, Keeps (fun _ => False) w (w.alloc o) := fun o => (Keeps.refl _ w).alloc o
  refine (lines_write L rows ob pb k cap base l _ (HA.out.later (ka _)) (HP.out.keep (ka _) id) HK.out hk1 hn (by simp; omega) HNP.out).mono ?_
  rintro e w1 ⟨rfl, hw⟩
  have HW := Lib.hid (hw.before (ka _))
  clear hw ka
  go_wp2_with fail
  go_returns
  exact ⟨rfl, HW.out⟩

end Go.Proofs.YtpenbgiobeebiaaGreatDoor
