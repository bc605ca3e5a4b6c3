/-
  THE WALK of the law 'FnP256DigitsMatchDivisionModel'.
-/
import Derived.Test.Qxb6000103aModsRows
import Derived.WalkKit
import Derived.WalkLawsBesides
import Derived.Below
import Derived.RegionTactic
import Derived.Test.Qxb6000103aModsCopy
import Derived.Test.Qxb6000103aModsDigits
import Derived.Test.Qxb6000103aModsDivPlain
namespace Go.Proofs.Qxb6000103aMods.fnP256DigitsMatchDivisionModel
open Go.RowKit Plain

theorem zero33 : (#[.int .u8 0, .int .u8 0, .int .u8 0, .int .u8 0, .int .u8 0, .int .u8 0, .int .u8 0, .int .u8 0, .int .u8 0, .int .u8 0, .int .u8 0, .int .u8 0, .int .u8 0, .int .u8 0, .int .u8 0, .int .u8 0, .int .u8 0, .int .u8 0, .int .u8 0, .int .u8 0, .int .u8 0, .int .u8 0, .int .u8 0, .int .u8 0, .int .u8 0, .int .u8 0, .int .u8 0, .int .u8 0, .int .u8 0, .int .u8 0, .int .u8 0, .int .u8 0, .int .u8 0] : Array Value) = row .u8 33 (fun _ => 0) := by kernel_rfl

theorem walk_other (a0 : Option Addr) (len0 cap0 : Nat) (w : World) (hm : len0 ≤ maxLen) (hl : ((len0 : Int) != 32) = true) :
    Calls Trym.prog 4 #[.slice a0 len0 cap0] w fun e w' => e = .returned (.bool true) ∧ Below w.heap.size w w' := by
  unfold maxLen at hm
  go_enter Trym.func4, Trym.ntmps4
  go_wp2
  all_goals (go_ret; exact ⟨rfl, Below.refl _ _⟩)

/-- WHAT HOLDS at the head of round i: n holds what is left. -/
def Inv (N : Int) (w : World) (A C B : Nat) (T : Int) (wr : World) : Prop :=
  RowIn .i64 wr B 25 43 (dig N) ∧ Below A w wr ∧ A ≤ C ∧ C < B ∧ ∃ f, RowIn .u8 wr C 29 33 f ∧ Bytes 33 f ∧ V 33 f = T

/-- WHAT HOLDS while 64 - r is added: c is carried into place k. -/
def InvC (N : Int) (w : World) (A C B : Nat) (T : Int) (k : Nat) (c : Int) (wr : World) : Prop :=
  RowIn .i64 wr B 25 43 (dig N) ∧ Below A w wr ∧ ∃ g, RowIn .u8 wr C 29 33 g ∧ Bytes 33 g ∧ V 33 g + c * p2 (8 * k) = T

theorem shift_done {N T : Int} {w wr : World} {A C B : Nat} {g : Nat → Int} (hd : RowIn .i64 wr B 25 43 (dig N)) (hbel : Below A w wr) (hAC : A ≤ C) (hCB : C < B)
    (hn : RowIn .u8 wr C 29 33 (fun j => if j < 32 then g j / 64 + g (j + 1) % 64 * 4 else g j)) (hb : Bytes 33 g) (hV : V 33 g = 64 * T) :
    Inv N w A C B T (wr.setCell ⟨C, 32, none⟩ (.int .u8 (g 32 / 64))) := by
  refine ⟨hd.other (by simp; omega) _, hbel.setCell hAC _, hAC, hCB, shr6 32 g, (hn.setCell 32 (g 32 / 64)).congr (fun j hj => ?_), shr6_bytes 32 g hb, ?_⟩
  · unfold shr6
    by_cases e : j = 32
    · subst e; rw [upd_same, if_neg (by omega)]
    · rw [upd_other _ _ e, if_pos (by omega), if_pos (by omega)]
  · have := shr6_V 32 g hb
    rw [show V (32 + 1) (shr6 32 g) = V 33 (shr6 32 g) from rfl, show V (32 + 1) g = V 33 g from rfl, hV] at this
    omega

set_option maxRecDepth 100000 in
set_option maxHeartbeats 1600000 in
theorem walk_32 (b off cap : Nat) (z : Nat → Int) (w : World) (hc : ∀ i, i < 32 → w.cell? ⟨b, off + i, none⟩ = some (.int .u8 (z i))) (hz : ∀ i, i < 32 → 0 ≤ z i ∧ z i ≤ 255) (N : Int) (hN : Hid (N = V 32 (fun k => z (31 - k)))) :
    Calls Trym.prog 4 #[.slice (some ⟨b, off, none⟩) 32 cap] w fun e w' => e = .returned (.bool true) ∧ Below w.heap.size w w' := by
  have HC : Hid (∀ i, i < 32 → w.cell? ⟨b, off + i, none⟩ = some (.int .u8 (z i))) := hc
  have HZ : Hid (∀ i, i < 32 → 0 ≤ z i ∧ z i ≤ 255) := hz
  clear hc hz
  go_enter Trym.func4, Trym.ntmps4
  go_wp2_with (go_at_call 11; go_in)
  refine (copy_any b off cap z _ HC.out).mono ?_
  rintro e w1 ⟨rfl, hrow, hsz1, hbel1⟩
  have hAC : w.heap.size < w1.heap.size := by omega
  clear hsz1
  go_wp2_with fail
  go_loopw [4] (fun i wr => ∃ k : Nat, k ≤ 32 ∧ i = .int .i64 k ∧ RowIn .u8 wr w.heap.size 5 32 z ∧ Below w.heap.size w wr ∧ RowIn .u8 wr w1.heap.size 29 33 (fun j => if j < k then z (31 - j) else 0)) (fun i _ => 32 - (intOf i).toNat)
  case atStart =>
    rw [zero33]
    exact ⟨0, by omega, rfl, hrow.alloc _, hbel1.alloc (by omega) _, RowIn.new _ _ _ _ _⟩
  case round =>
    obtain ⟨k, hk, rfl, hs, hbel, hn⟩ := hrel
    clear hrow hbel1
    generalize w1.heap.size = C at *
    by_cases hlt : k < 32
    · have gs := hs.cell (j := 31 - k) (by omega)
      have ga := hn.cell (j := k) (by omega)
      have gf := hn.free k
      go_wp2
      go_roundw
      case rel => exact ⟨k + 1, by omega, by go_num, hs.other (by simp; omega) _, hbel.setCell (by simp; omega) _, hn.snoc rfl⟩
      case measure => simp [intOf]; omega
    · obtain rfl : k = 32 := by omega
      have hCw := hn.lt
      go_wp2_with fail
      refine (zzdigits_any w.heap.size z _ (fun i hi => hs.cell hi) HZ.out N hN).mono ?_
      rintro e w2 ⟨rfl, hbel2⟩
      have hn2 : RowIn .u8 w2 C 29 33 (pad33 z) := hn.below hbel2 hn.lt
      have hbelA : Below w.heap.size w w2 := hbel.trans (hbel2.mono (by omega))
      have hCB : C < w2.heap.size := hn2.lt
      clear hs hbel hbel2 hn hCw
      go_wp2_with (refine wpList_store_row rfl 25 _ _ rfl w2.heap.size _ rfl rfl 25 _ (heap_alloc_new w2 _) size25 (by rw [row_size]; rfl) (row_oneCell _ _ _) ?_)
      have HN0 : Hid (0 ≤ N) := by rw [hN.out]; exact (V_bounds 32 _ (fun k _ => HZ.out (31 - k) (by omega))).1
      have HN1 : Hid (N < p2 256) := by rw [hN.out]; exact (V_bounds 32 _ (fun k _ => HZ.out (31 - k) (by omega))).2
      go_loopw [6] (fun i wr => ∃ k : Nat, k ≤ 43 ∧ i = .int .i64 k ∧ Inv N w w.heap.size C w2.heap.size (left N k) wr) (fun i _ => 43 - (intOf i).toNat)
      case atStart =>
        rw [zero43]
        refine ⟨0, by omega, rfl, (RowIn.new _ _ _ _ _).setRow _, Below_setRow (hbelA.alloc (by omega) _) (by omega) _, by omega, hCB, pad33 z, ?_, pad33_bytes z HZ.out, ?_⟩
        · exact (hn2.alloc _).setRow_other _ (by omega)
        · rw [pad33_V, left_zero]; exact hN.out.symm
      case round =>
        obtain ⟨i, hi, rfl, hinv⟩ := hrel
        clear hn2 hbelA
        generalize w2.heap.size = B at *
        by_cases hlti : i < 43
        · obtain ⟨hd, hbel, hAC', hCB', f, hf, hfb, hV⟩ := hinv
          have HFB : Hid (Bytes 33 f) := hfb
          have HV : Hid (V 33 f = left N i) := hV
          have g0 := hf.cell (j := 0) (by omega)
          have g0f := hf.free 0
          have f0 := hfb 0 (by omega)
          have gd := hd.cell hlti
          have hr : Hid (left N i % 64 = f 0 % 64) := by rw [← hV]; exact V_mod64 32 f
          have hT : Hid (left N i - dig N i = 64 * left N (i + 1)) := by have := left_step N i; unfold Hid; omega
          clear hfb hV
          have hdi : decide ((i : Int) < 43) = true := by simp; omega
          by_cases h32 : 32 < f 0 % 64
          · have hdig : dig N i = f 0 % 64 - 64 := by have := dig_model N i; have := hr.out; omega
            rw [hdig] at gd
            have HD : Hid (dig N i = f 0 % 64 - 64) := hdig
            clear hdig
            have hst : InvC N w w.heap.size C B (64 * left N (i + 1)) 0 (64 - f 0 % 64) wr := ⟨hd, hbel, f, hf, HFB.out, by have := HV.out; have := HD.out; have := hT.out; simp only [p2]; omega⟩
            have hdt : decide (64 ≤ f 0 % 64) = false := by simp; omega
            have hdu : decide (32 < f 0 % 64) = true := by simp; omega
            have hcb : 1 ≤ 64 - f 0 % 64 ∧ 64 - f 0 % 64 ≤ 32 := by omega
            go_wp2
            clear hd hbel hf HFB HV g0 g0f gd
            go_loopw [9, 10] (fun c kk wr => ∃ (k : Nat) (c' : Int), k ≤ 33 ∧ kk = .int .i64 k ∧ c = .int .i64 c' ∧ 0 ≤ c' ∧ c' ≤ 64 ∧ InvC N w w.heap.size C B (64 * left N (i + 1)) k c' wr) (fun _ kk _ => 33 - (intOf kk).toNat)
            case atStart => exact ⟨0, _, by omega, rfl, rfl, by omega, by omega, hst⟩
            case round =>
              clear hst
              obtain ⟨k, c, hk, rfl, rfl, hc0, hc1, hd, hbel, g, hg, hgb, hVg⟩ := hrel
              by_cases hgo : k < 33 ∧ c ≠ 0
              · obtain ⟨hlt, hcn⟩ := hgo
                have hcn' : (c != 0) = true := by rw [bne_iff_ne]; exact hcn
                have ga := hg.cell hlt
                have gf := hg.free k
                have gb := hgb k hlt
                have HS : Hid (InvC N w w.heap.size C B (64 * left N (i + 1)) (k + 1) ((g k + c) / 256) (wr.setCell ⟨C, k, none⟩ (.int .u8 ((g k + c) % 256)))) :=
                  ⟨hd.other (by simp; omega) _, hbel.setCell (by simp; omega) _, _, hg.setCell _ _, hgb.upd (by omega), (add_step 33 g k c hlt).trans hVg⟩
                clear hgb hVg
                generalize g k = a at ga gb HS
                go_wp2
                go_roundw
                case rel => exact ⟨k + 1, (a + c) / 256, by omega, by go_num, rfl, by omega, by omega, by rw [and255 (a + c) (by omega) (by omega)]; exact HS.out⟩
                case measure => simp [intOf]; omega
              · have hcz : c = 0 := by
                  by_cases hk33 : k < 33
                  · omega
                  · obtain rfl : k = 33 := by omega
                    have hT2 : 64 * left N (i + 1) < p2 264 := by
                      have := hT.out; have := left_small N HN0.out HN1.out i; have := dig_bounds N i; omega
                    exact no_carry g c _ hgb hc0 hT2 hVg
                subst hcz
                have HGB : Hid (Bytes 33 g) := hgb
                have HVG : Hid (V 33 g = 64 * left N (i + 1)) := by unfold Hid; simpa using hVg
                have hst : RowIn .i64 wr B 25 43 (dig N) ∧ Below w.heap.size w wr ∧ RowIn .u8 wr C 29 33 (fun j => if j < 0 then g j / 64 + g (j + 1) % 64 * 4 else g j) := ⟨hd, hbel, hg⟩
                clear hgb hVg hgo hd hbel hg
                by_cases hk33 : k < 33
                all_goals
                  go_wp2
                  go_loopw [12] (fun i' wr => ∃ k : Nat, k ≤ 32 ∧ i' = .int .i64 k ∧ RowIn .i64 wr B 25 43 (dig N) ∧ Below w.heap.size w wr ∧ RowIn .u8 wr C 29 33 (fun j => if j < k then g j / 64 + g (j + 1) % 64 * 4 else g j)) (fun i' _ => 32 - (intOf i').toNat)
                  case atStart => exact ⟨0, by omega, rfl, hst⟩
                  case round =>
                    clear hst
                    obtain ⟨k, hk, rfl, hd, hbel, hn⟩ := hrel
                    by_cases hlt : k < 32
                    · have ga := hn.cell (j := k) (by omega)
                      have gc := hn.cell (j := k + 1) (by omega)
                      have gf := hn.free k
                      simp only [Nat.lt_irrefl, if_false] at ga
                      rw [if_neg (by omega)] at gc
                      have gb := HGB.out k (by omega)
                      have gbc := HGB.out (k + 1) (by omega)
                      have HS : Hid (RowIn .u8 (wr.setCell ⟨C, k, none⟩ (.int .u8 (g k / 64 + g (k + 1) % 64 * 4))) C 29 33 (fun j => if j < k + 1 then g j / 64 + g (j + 1) % 64 * 4 else g j)) := hn.snoc rfl
                      generalize g k = a at ga gb HS
                      generalize g (k + 1) = a1 at gc gbc HS
                      go_wp2
                      go_region
                      go_wp2
                      go_roundw
                      case rel =>
                        rw [or6 a a1 gb]
                        exact ⟨k + 1, by omega, by go_num, (hd.other (by simp; omega) _).drew, (hbel.setCell (by simp; omega) _).drew, HS.out.drew⟩
                      case measure => simp [intOf]; omega
                    · obtain rfl : k = 32 := by omega
                      have ga := hn.cell (j := 32) (by omega)
                      have gf := hn.free 32
                      simp only [Nat.lt_irrefl, if_false] at ga
                      have gb := HGB.out 32 (by omega)
                      have HE : Hid (Inv N w w.heap.size C B (left N (i + 1)) (wr.setCell ⟨C, 32, none⟩ (.int .u8 (g 32 / 64)))) := shift_done hd hbel hAC' hCB' hn HGB.out HVG.out
                      clear hn
                      generalize g 32 = a at ga gb HE
                      go_wp2
                      go_roundw
                      case rel => exact ⟨i + 1, by omega, by go_num, HE.out⟩
                      case measure => simp [intOf]; omega
          · have hdig : dig N i = f 0 % 64 := by have := dig_model N i; have := hr.out; omega
            rw [hdig] at gd
            have HD : Hid (dig N i = f 0 % 64) := hdig
            clear hdig
            have HE0 : Hid (∃ g, Bytes 33 g ∧ V 33 g = 64 * left N (i + 1) ∧ RowIn .i64 (wr.setCell ⟨C, 0, none⟩ (.int .u8 (f 0 - f 0 % 64))) B 25 43 (dig N) ∧ Below w.heap.size w (wr.setCell ⟨C, 0, none⟩ (.int .u8 (f 0 - f 0 % 64))) ∧ RowIn .u8 (wr.setCell ⟨C, 0, none⟩ (.int .u8 (f 0 - f 0 % 64))) C 29 33 (fun j => if j < 0 then g j / 64 + g (j + 1) % 64 * 4 else g j)) :=
              ⟨upd f 0 (f 0 - f 0 % 64), HFB.out.upd (by omega), by rw [V_upd 33 f 0 _ (by omega)]; have := HV.out; have := HD.out; have := hT.out; simp only [p2]; omega,
                hd.other (by simp; omega) _, hbel.setCell hAC' _, hf.setCell _ _⟩
            go_wp2
            clear hd hbel hf HFB HV g0 g0f gd
            obtain ⟨g, hgb, hVg, hst⟩ := HE0
            have HGB : Hid (Bytes 33 g) := hgb
            have HVG : Hid (V 33 g = 64 * left N (i + 1)) := hVg
            clear hgb hVg
            go_loopw [12] (fun i' wr => ∃ k : Nat, k ≤ 32 ∧ i' = .int .i64 k ∧ RowIn .i64 wr B 25 43 (dig N) ∧ Below w.heap.size w wr ∧ RowIn .u8 wr C 29 33 (fun j => if j < k then g j / 64 + g (j + 1) % 64 * 4 else g j)) (fun i' _ => 32 - (intOf i').toNat)
            case atStart => exact ⟨0, by omega, rfl, hst⟩
            case round =>
              clear hst
              obtain ⟨k, hk, rfl, hd, hbel, hn⟩ := hrel
              by_cases hlt : k < 32
              · have ga := hn.cell (j := k) (by omega)
                have gc := hn.cell (j := k + 1) (by omega)
                have gf := hn.free k
                simp only [Nat.lt_irrefl, if_false] at ga
                rw [if_neg (by omega)] at gc
                have gb := HGB.out k (by omega)
                have gbc := HGB.out (k + 1) (by omega)
                have HS : Hid (RowIn .u8 (wr.setCell ⟨C, k, none⟩ (.int .u8 (g k / 64 + g (k + 1) % 64 * 4))) C 29 33 (fun j => if j < k + 1 then g j / 64 + g (j + 1) % 64 * 4 else g j)) := hn.snoc rfl
                generalize g k = a at ga gb HS
                generalize g (k + 1) = a1 at gc gbc HS
                go_wp2
                go_region
                go_wp2
                go_roundw
                case rel =>
                  rw [or6 a a1 gb]
                  exact ⟨k + 1, by omega, by go_num, (hd.other (by simp; omega) _).drew, (hbel.setCell (by simp; omega) _).drew, HS.out.drew⟩
                case measure => simp [intOf]; omega
              · obtain rfl : k = 32 := by omega
                have ga := hn.cell (j := 32) (by omega)
                have gf := hn.free 32
                simp only [Nat.lt_irrefl, if_false] at ga
                have gb := HGB.out 32 (by omega)
                have HE : Hid (Inv N w w.heap.size C B (left N (i + 1)) (wr.setCell ⟨C, 32, none⟩ (.int .u8 (g 32 / 64)))) := shift_done hd hbel hAC' hCB' hn HGB.out HVG.out
                clear hn
                generalize g 32 = a at ga gb HE
                go_wp2
                go_roundw
                case rel => exact ⟨i + 1, by omega, by go_num, HE.out⟩
                case measure => simp [intOf]; omega
        · obtain rfl : i = 43 := by omega
          obtain ⟨hd, hbel, hAC', hCB', f, hf, hfb, hV⟩ := hinv
          have HF : Hid (∀ k, k < 33 → f k = 0) := V_all_zero 33 f hfb (by rw [hV]; exact left_43 z N hN.out HZ.out)
          clear hV hfb hd
          go_wp2
          go_loop [13] (fun i' => ∃ k : Nat, k ≤ 33 ∧ i' = .int .i64 k) (fun i' => 33 - (intOf i').toNat)
          case atStart => exact ⟨0, by omega, rfl⟩
          case round =>
            obtain ⟨k, hk, rfl⟩ := hrel
            by_cases hlt : k < 33
            · have ga := hf.cell hlt
              rw [HF.out k hlt] at ga
              go_wp2
              go_round
              case rel => exact ⟨k + 1, by omega, by go_num⟩
              case measure => simp [intOf]; omega
            · obtain rfl : k = 33 := by omega
              go_wp2
              go_ret
              exact ⟨rfl, hbel⟩

end Go.Proofs.Qxb6000103aMods.fnP256DigitsMatchDivisionModel
