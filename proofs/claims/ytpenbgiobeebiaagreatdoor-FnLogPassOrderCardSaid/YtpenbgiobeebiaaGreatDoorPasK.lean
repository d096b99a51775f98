/- What passes. -/
import Derived.Test.YtpenbgiobeebiaaGreatDoorPasJ
namespace Go.Proofs.YtpenbgiobeebiaaGreatDoor
open Go.RowKit

theorem ConfAt.c9 {w : World} {C : Nat} {gl : Int} (h : ConfAt w C gl) : w.cell? ⟨C, 9, none⟩ = some (.int .i8 gl) := by
  obtain ⟨cs, k1, k2, k3, k4, k5, k6⟩ := h
  rw [k1.cell, k4]
theorem ConfAt.f9 {w : World} {C : Nat} {gl : Int} (h : ConfAt w C gl) : w.frozen? ⟨C, 9, none⟩ = false := by
  obtain ⟨cs, k1, k2, k3, k4, k5, k6⟩ := h
  exact k1.frozen 9
theorem ConfAt.set9 {w : World} {C : Nat} {a : Int} (h : ConfAt w C a) (gl : Int) : ConfAt (w.setCell ⟨C, 9, none⟩ (.int .i8 gl)) C gl := by
  obtain ⟨cs, k1, k2, k3, k4, k5, k6⟩ := h
  refine ⟨_, k1.set 9 (.int .i8 gl), ?_, ?_, ?_, ?_, ?_⟩
  · rw [Array.getElem?_setIfInBounds_ne (by decide)]; exact k2
  · rw [Array.getElem?_setIfInBounds_ne (by decide)]; exact k3
  · rw [Array.getElem?_setIfInBounds_self_of_lt (Array.getElem?_eq_some_iff.1 k4).1]
  · rw [Array.getElem?_setIfInBounds_ne (by decide)]; exact k5
  · rw [Array.getElem?_setIfInBounds_ne (by decide)]; exact k6
theorem LinesAt.one {w : World} {base L : Nat} {r : List UInt8} {ob : Option Nat} (h : LinesAt w base L [r] ob) : ∃ p c, w.cell? ⟨L, 0, none⟩ = some (.slice p 1 c) := by
  obtain ⟨v, h1, h2, _⟩ := h
  rcases h2.2 with ⟨_, h0⟩ | ⟨g, cap, cur, rfl, _⟩
  · simp at h0
  · exact ⟨_, _, h1.cell 0⟩
theorem LinesAt.nil {w : World} {base L : Nat} {ob : Option Nat} (h : LinesAt w base L [] ob) : ∃ p c, w.cell? ⟨L, 0, none⟩ = some (.slice p 0 c) := by
  obtain ⟨v, h1, h2, _⟩ := h
  rcases h2.2 with ⟨rfl, _⟩ | ⟨g, cap, cur, rfl, _⟩
  · exact ⟨_, _, h1.cell 0⟩
  · exact ⟨_, _, h1.cell 0⟩
theorem LinesAt.new (w : World) : LinesAt (w.alloc (.cells #[.slice none 0 0] 29)) w.heap.size w.heap.size [] none := ⟨_, Whole.new w 29 _, World.ownsRow_nil _ _ _ _, rfl, by simp⟩

theorem small_wrap (n : Int) (h1 : -1 ≤ n) (h2 : n ≤ 6) : IntKind.i8.wrap n = n := by
  have : n = -1 ∨ n = 0 ∨ n = 1 ∨ n = 2 ∨ n = 3 ∨ n = 4 ∨ n = 5 ∨ n = 6 := by omega
  rcases this with rfl | rfl | rfl | rfl | rfl | rfl | rfl | rfl <;> rfl

set_option maxRecDepth 100000 in
set_option maxHeartbeats 4000000 in
theorem pass_walk (l gl ev : Int) (hl1 : -1 ≤ l) (hl2 : l ≤ 6) (hg1 : -1 ≤ gl) (hg2 : gl ≤ 6) (he1 : -1 ≤ ev) (he2 : ev ≤ 6) (w : World) :
    Calls Tryz.prog 4 #[.int .i64 l, .int .i64 gl, .int .i64 ev] w fun e w' => e = .returned (.bool (decide (l ≤ ev ∧ gl ≤ ev))) ∧ Below w.heap.size w w' := by
  have wl := small_wrap l hl1 hl2
  have wg := small_wrap gl hg1 hg2
  have we := small_wrap ev he1 he2
  have HB := Lib.hid (And.intro hl1 (And.intro hl2 (And.intro hg1 (And.intro hg2 (And.intro he1 he2)))))
  clear hl1 hl2 hg1 hg2 he1 he2
  go_enter Tryz.func4, Tryz.ntmps4
  go_wp2_with fail
  obtain ⟨W1, hW1⟩ : ∃ W1, W1 = w.alloc (.cells #[.slice none 0 0] 29) := ⟨_, rfl⟩
  rw [← hW1]
  have li1 := LinesAt.new w
  have k1 : Keeps (fun _ => False) w W1 := by
    rw [hW1]
    exact (Keeps.refl _ w).alloc _
  rw [← hW1] at li1
  have H1 := Lib.hid (And.intro li1 k1)
  have hs1 : w.heap.size < W1.heap.size := li1.typed.lt
  clear hW1 li1 k1
  obtain ⟨L, hL⟩ : ∃ L, L = w.heap.size := ⟨_, rfl⟩
  rw [← hL]
  have HL := Lib.hid hL
  clear hL
  go_wp2_with (first
    | (go_at_call 7; refine (defaults_any _).mono ?_; rintro e w2 ⟨C, rfl, hcf, hCg, hk2⟩; have c9 := hcf.c9; have f9 := hcf.f9; have H2 := Lib.hid (And.intro hcf (And.intro hCg hk2)); clear hcf hCg hk2)
    | (go_at_call 8; refine (new_any _ _ _).mono ?_; rintro e w3 ⟨rfl, hk3⟩; have H3 := Lib.hid hk3; clear hk3)
    | (go_at_call 9; refine (level_set _ _ _ _).mono ?_; rintro e w4 ⟨rfl, hk4⟩; have H4 := Lib.hid hk4; clear hk4; unfold logV))
  obtain ⟨W, hW⟩ : ∃ W, W = w4.alloc (.cells #[.iface 64 (adV L), .int .i8 l, .nilIface, .slice none 0 0, .slice none 0 0, .bool false, .pointer (some ⟨C, 0, none⟩)] 48) := ⟨_, rfl⟩
  rw [← hW]
  have hk2 := H2.out.2.2
  have kT : Keeps (fun k => k = C) W1 W := by
    rw [hW]
    exact ((((hk2.mono (T := fun k => k = C) fun _ h => h.elim).set (p := ⟨C, 9, none⟩) (.inl rfl) (.int .i8 gl)).trans (H3.out.mono fun _ h => h.elim)).trans (H4.out.mono fun _ h => h.elim)).alloc _
  have cf : ConfAt W C gl := by
    rw [hW]
    exact (((H2.out.1.set9 gl).keep H3.out id).keep H4.out id).keep ((Keeps.refl (fun _ => False) w4).alloc _) id
  have hLC : ¬ (w.heap.size = C) := by
    have := H2.out.2.1
    omega
  have li : LinesAt W w.heap.size L [] none := by
    rw [HL.out]
    exact H1.out.1.keep kT hLC (fun _ h => by cases h)
  have lg : LogAt W w4.heap.size l C L := by
    rw [hW]
    exact Whole.new w4 48 _
  have bW : Below w.heap.size w W := (H1.out.2.below (Nat.le_refl _) (fun _ h => h.elim)).trans (kT.below (by omega) (by rintro k rfl; have := H2.out.2.1; omega))
  have hL2 : w.heap.size ≤ L := by rw [HL.out]; exact Nat.le_refl _
  obtain ⟨hl1, hl2, hg1, hg2, he1, he2⟩ := HB.out
  by_cases hp : l ≤ ev ∧ gl ≤ ev
  · have c19 : Calls Tryz.prog 19 #[.pointer (some ⟨w4.heap.size, 0, none⟩), .int .i8 ev] W (NEnd w.heap.size C L ev gl W) := by
      by_cases h6 : ev = 6
      · subst h6
        exact event_six w.heap.size w4.heap.size C L l gl W lg cf li hL2 bW.size (by omega) hp.1 hp.2
      · exact event_lv w.heap.size w4.heap.size C L l gl ev W lg cf li hL2 bW.size (by omega) hp.1 hp.2 he1 (by omega)
    refine (with_level _ ev he1 he2 W _ (by rintro e w' ⟨E, g, n, l', k1, M, rfl, _⟩; exact ⟨_, rfl⟩) c19).mono ?_
    rintro e w5 ⟨E, g, n, l', k1, M, rfl, hs, ha, hM, hn, hb⟩
    have hlen : (l' ++ M).length = n + k1 := by rw [List.length_append, hs.ln, hM]
    have c21 := msg_walk w.heap.size E g n k1 3 ev C L gl l' M [34, 120, 34] w5 hs (by omega) (by omega) (Nat.le_trans bW.size hb.size) ha (adds_str g (n + k1) 1 (l' ++ M) [120] _ _ rfl hlen rfl rfl (by unfold PlainStr; decide) (by omega)) (by simp [hM])
    have C11 := Lib.hid (Msg_walk E w5 _ (by rintro e w' ⟨rfl, _⟩; rfl) c21)
    have HB2 := Lib.hid (bW.trans hb)
    have hd : decide (l ≤ ev ∧ gl ≤ ev) = true := by simpa using hp
    clear lg li cf kT hk2 hW bW hb hs ha hM hn hlen c21 c19 H1 H2 H3 H4 hLC c9 f9
    go_wp2_with ((go_at_call 11; refine C11.out.mono ?_; rintro e w6 ⟨rfl, ⟨r, ob, hr⟩, hb6⟩; obtain ⟨p, c, hc⟩ := hr.one; have hb6 := Lib.hid hb6; clear hr))
    go_returns
    exact ⟨by rw [hd]; rfl, HB2.out.trans hb6.out⟩
  · have c19 := event_no w4.heap.size C L l gl ev W lg cf (by omega) hp
    refine (with_level _ ev he1 he2 W _ (by rintro e w' ⟨rfl, _⟩; exact ⟨_, rfl⟩) c19).mono ?_
    rintro e w5 ⟨rfl, rfl⟩
    obtain ⟨p, c, hc⟩ := li.nil
    have HB2 := Lib.hid bW
    have hd : decide (l ≤ ev ∧ gl ≤ ev) = false := by simpa using hp
    clear lg li cf kT hk2 hW bW c19 H1 H2 H3 H4 hLC c9 f9
    go_wp2_with ((go_at_call 11; refine (Msg_nil _).mono ?_; rintro e w6 ⟨rfl, rfl⟩))
    go_returns
    exact ⟨by rw [hd]; rfl, HB2.out⟩
#print axioms pass_walk
end Go.Proofs.YtpenbgiobeebiaaGreatDoor
