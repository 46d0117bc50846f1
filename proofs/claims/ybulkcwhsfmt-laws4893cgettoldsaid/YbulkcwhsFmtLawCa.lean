/-
  THE WALK OF 'LawS4893CGet' (function 4): q is one of the names
-/
import Derived.Test.YbulkcwhsFmtLawC
namespace Go.Proofs.YbulkcwhsFmt.Find
open Go.RowKit Go.Extern.Stop Go.Stop Go.Extern

set_option maxHeartbeats 2000000 in
set_option maxRecDepth 100000 in
theorem law_pos (F : Interp) (a0 : Option Addr) (n cap : Nat) (nm : Nat → ByteArray) (pk : Int) (qu : ByteArray) (w : World) (hF : F.answers w.tape)
    (hrow : Names w a0 n nm) (hp0 : 0 ≤ pk) (hp1 : pk ≤ 255) (hn : n ≤ 1024) (hq : pk % ((n : Int) + 1) < (n : Int)) :
    Calls Ybaf.prog 4 #[.slice a0 n cap, .int .u8 pk, .string qu] w fun e w' => e = .returned (.bool true) ∧ Below w.heap.size w w' := by
  have hmk := made n hn
  have HQQ : Hid (pk % ((n : Int) + 1) < (n : Int)) := hq
  clear hq
  go_enter Ybaf.func4, Ybaf.ntmps4
  go_wp2
  clear hmk
  go_loopw [24] (fun i wr => ∃ k : Nat, k ≤ n ∧ i = .int .i64 k ∧ Part w wr w.heap.size n k nm (fun j => nm j ++ hash)) (fun i _ => n - (intOf i).toNat)
  case atStart => exact ⟨0, by omega, rfl, part_start w n nm _⟩
  case round =>
    obtain ⟨k, hk, rfl, hpart⟩ := hrel
    have HP : Hid (Part w wr w.heap.size n k nm (fun j => nm j ++ hash)) := hpart
    have HR : Hid (Names w a0 n nm) := hrow
    clear hpart hrow
    by_cases hlt : k < n
    · rcases HR.out with h0 | ⟨b, off, rfl, hbl, hc⟩
      · omega
      obtain ⟨hck, hsk⟩ := hc k hlt
      have hckr : wr.cell? ⟨b, off + k, none⟩ = some (.string (nm k)) := (HP.out.below.cell (p := ⟨b, off + k, none⟩) hbl).trans hck
      have HC : Hid (∀ i, i < n → w.cell? ⟨b, off + i, none⟩ = some (.string (nm i)) ∧ (nm i).size + 1 ≤ 9223372036854775807) := hc
      clear hc hck
      have hgl := HP.out.snaps.lt
      have hbr : b < wr.heap.size := by omega
      have hrm := HP.out.room
      obtain ⟨v0, r0⟩ := Option.isSome_iff_exists.1 (hrm (k * 6) (by omega))
      obtain ⟨v1, r1⟩ := Option.isSome_iff_exists.1 (hrm (k * 6 + 1) (by omega))
      obtain ⟨v2, r2⟩ := Option.isSome_iff_exists.1 (hrm (k * 6 + 2) (by omega))
      obtain ⟨v3, r3⟩ := Option.isSome_iff_exists.1 (hrm (k * 6 + 3) (by omega))
      obtain ⟨v4, r4⟩ := Option.isSome_iff_exists.1 (hrm (k * 6 + 4) (by omega))
      obtain ⟨v5, r5⟩ := Option.isSome_iff_exists.1 (hrm (k * 6 + 5) (by omega))
      have f0 := HP.out.free (k * 6)
      have f1 := HP.out.free (k * 6 + 1)
      have f2 := HP.out.free (k * 6 + 2)
      have f3 := HP.out.free (k * 6 + 3)
      have f4 := HP.out.free (k * 6 + 4)
      have f5 := HP.out.free (k * 6 + 5)
      clear hrm
      have i0 : (0 : Int) ≤ (k : Int) := by omega
      have i1 : (k : Int) < (n : Int) := by omega
      have hadd : ∀ W : World, (binOp .add 9 (.string (nm k)) (.string ⟨#[35]⟩)).run Ybaf.prog W = .ok (.string (nm k ++ ⟨#[35]⟩)) W := fun W => by
        rw [binOp_string_add]; exact run_string_add_sum W (nm k) hash hsk
      have hs1 : ¬ 9223372036854775807 ≤ (nm k).size := by omega
      have hs2 : ¬ 9223372036854775807 < (nm k).size + 1 := by omega
      have hne1 : b ≠ w.heap.size := by omega
      have hne2 : w.heap.size ≠ b := by omega
      go_wp2
      go_region_held3 (fun w' => w'.cell? ⟨b, off + k, none⟩ = some (.string (nm k))) (first | with_reducible exact keepS hgl hbr hne1 hne2 hckr | go_keep) ((go_at_call 12; refine (Tm.add_any (k : Int) _ (by omega) (by omega)).mono ?_; rintro e w' ⟨rfl, rfl⟩))
      go_wp2
      go_roundw
      case rel => exact ⟨k + 1, by omega, by go_num, (part_step HP.out hlt).later (((Below.refl _ _).alloc (Nat.le_refl _) _).alloc (by simp) _).drew⟩
      case measure => simp [intOf]; omega
    · have hkn : k = n := by omega
      subst hkn
      have hm0 : 0 ≤ pk % ((k : Int) + 1) := Int.emod_nonneg _ (by omega)
      have hm1 : pk % ((k : Int) + 1) < (k : Int) + 1 := Int.emod_lt_of_pos _ (by omega)
      have hgl := HP.out.snaps.lt
      have hq : pk % ((k : Int) + 1) < (k : Int) := HQQ.out
      rcases HR.out with h0 | ⟨b, off, rfl, hbl, hc⟩
      · omega
      obtain ⟨kk, hkk⟩ := Int.eq_ofNat_of_zero_le hm0
      rw [hkk] at hm0 hm1 hq
      obtain ⟨hck, _⟩ := hc kk (by omega)
      have hckr : wr.cell? ⟨b, off + kk, none⟩ = some (.string (nm kk)) := (HP.out.below.cell (p := ⟨b, off + kk, none⟩) hbl).trans hck
      clear hc hck
      go_wp2_with fail
      clear hckr hq hkk hm0 hm1 hbl
      generalize nm kk = q
      have hbA : Below wr.heap.size wr ((wr.alloc (.cells #[.string ⟨#[112]⟩] 9)).alloc (.cells #[.int .i64 1, .string qu, .slice (some ⟨wr.heap.size, 0, none⟩) 1 1, .slice (some ⟨w.heap.size, 0, none⟩) k k] 54)) := ((Below.refl _ _).alloc (Nat.le_refl _) _).alloc (by simp) _
      have HP2 : Hid (Part w _ w.heap.size k k nm (fun j => nm j ++ hash)) := HP.out.later hbA
      refine (get_any F (wr.heap.size + 1) w.heap.size k q nm _ _ (by show F.answers wr.tape; rw [HP.out.below.tape]; exact hF) hn HP2.out.snaps (by simp) (by go_simp)).mono ?_
      rintro e w2 ⟨he, hb2⟩
      have HP3 : Hid (Part w w2 w.heap.size k k nm (fun j => nm j ++ hash)) := HP2.out.later hb2
      have d0 : w2.cell? ⟨wr.heap.size + 1, 0, none⟩ = some (.int .i64 1) := (hb2.cell (p := ⟨wr.heap.size + 1, 0, none⟩) (by simp)).trans (by go_simp)
      have d1 : w2.cell? ⟨wr.heap.size + 1, 1, none⟩ = some (.string qu) := (hb2.cell (p := ⟨wr.heap.size + 1, 1, none⟩) (by simp)).trans (by go_simp)
      have d2 : w2.cell? ⟨wr.heap.size + 1, 2, none⟩ = some (.slice (some ⟨wr.heap.size, 0, none⟩) 1 1) := (hb2.cell (p := ⟨wr.heap.size + 1, 2, none⟩) (by simp)).trans (by go_simp)
      have d3 : w2.cell? ⟨wr.heap.size + 1, 3, none⟩ = some (.slice (some ⟨w.heap.size, 0, none⟩) k k) := (hb2.cell (p := ⟨wr.heap.size + 1, 3, none⟩) (by simp)).trans (by go_simp)
      have e0 : w2.cell? ⟨wr.heap.size, 0, none⟩ = some (.string ⟨#[112]⟩) := (hb2.cell (p := ⟨wr.heap.size, 0, none⟩) (by simp; omega)).trans (by go_simp)
      have hz1 : wr.heap.size + 1 < w2.heap.size := by have := hb2.size; simp at this; omega
      have hz0 : wr.heap.size < w2.heap.size := by omega
      clear hbA hb2 HP2 HP
      rcases he with ⟨a, rfl, hno⟩ | ⟨j0, rfl, hj0, hq0, hno⟩
      · have HN : Hid (∀ j, j < k → nm j ≠ q) := hno
        clear hno
        go_wp2
        have hbW : Below w2.heap.size w2 (w2.alloc (.cells #[.string ⟨#[]⟩, .int .u64 0, .int .i64 0, .pointer none, .int .i64 0, .string ⟨#[]⟩] 51)) := (Below.refl _ _).alloc (Nat.le_refl _) _
        go_loopw [14, 113] (fun idx i wr3 => ∃ (m : Nat) (r : Int), m ≤ k ∧ i = .int .i64 m ∧ idx = .int .i64 r ∧ IsFirst nm q m r ∧ Below (w2.heap.size + 1) (w2.alloc (.cells #[.string ⟨#[]⟩, .int .u64 0, .int .i64 0, .pointer none, .int .i64 0, .string ⟨#[]⟩] 51)) wr3) (fun _ i _ => k - (intOf i).toNat)
        case atStart => exact ⟨0, -1, by omega, rfl, rfl, .inl ⟨rfl, fun j hj => by omega⟩, Below.refl _ _⟩
        case round =>
          obtain ⟨m, r, hmk, rfl, rfl, hfirst, hb3⟩ := hrel
          have HF : Hid (IsFirst nm q m r) := hfirst
          clear hfirst
          have hb4 := hbW.trans (hb3.mono (Nat.le_succ _))
          by_cases hlt2 : m < k
          · rcases HR.out with ⟨_, h0⟩ | ⟨bb, oo, haa, hbl2, hc2⟩
            · omega
            obtain ⟨rfl, rfl⟩ : b = bb ∧ off = oo := by simpa using haa
            obtain ⟨hck, hsk⟩ := hc2 m hlt2
            have hbl3 : b < w2.heap.size := by have := HP3.out.below.size; omega
            have hckr : wr.cell? ⟨b, off + m, none⟩ = some (.string (nm m)) := (hb4.cell (p := ⟨b, off + m, none⟩) hbl3).trans ((HP3.out.below.cell (p := ⟨b, off + m, none⟩) hbl2).trans hck)
            have c3 := (hb4.cell (by exact hz1)).trans d3
            have hs := HP3.out.snaps.later hb4 HP3.out.snaps.lt
            have c0 := hs.c0 m hlt2
            have c4 := hs.c4 m hlt2
            have c5 := hs.c5 m hlt2
            have c5' : wr.cell? ⟨w.heap.size, m * 6 + 5, none⟩ = some (.string (nm m ++ ⟨#[35]⟩)) := c5
            have i0 : (0 : Int) ≤ (m : Int) := by omega
            have i1 : (m : Int) < (k : Int) := by omega
            have hs1 : ¬ 9223372036854775807 ≤ (nm m).size := by omega
            clear hs hc2 hck c5 d0 d1 d2 d3 e0
            go_wp2
            go_quiet (fail)
            rcases HF.out with ⟨rfl, hno2⟩ | ⟨j1, rfl, hj1, hq1, hno2⟩
            · have HN2 : Hid (∀ j, j < m → nm j ≠ q) := hno2
              clear hno2
              by_cases hqm : nm m = q
              · have hqe := str_eq hqm
                have HQ : Hid (nm m = q) := hqm
                clear hqm
                go_wp2
                go_roundw
                case rel => exact ⟨m + 1, m, by omega, by go_num, rfl, .inr ⟨m, rfl, by omega, HQ.out, HN2.out⟩, below_drewN hb3 _⟩
                case measure => simp [intOf]; omega
              · have hqe := str_ne hqm
                have HQ : Hid (¬ nm m = q) := hqm
                clear hqm
                go_wp2
                go_roundw
                case rel => exact ⟨m + 1, -1, by omega, by go_num, rfl, .inl ⟨rfl, fun j hj => if h : j = m then h ▸ HQ.out else HN2.out j (by omega)⟩, below_drewN hb3 _⟩
                case measure => simp [intOf]; omega
            · have HN2 : Hid (∀ j, j < j1 → nm j ≠ q) := hno2
              have HQ : Hid (nm j1 = q) := hq1
              clear hno2 hq1
              go_wp2
              go_roundw
              case rel => exact ⟨m + 1, j1, by omega, by go_num, rfl, .inr ⟨j1, rfl, by omega, HQ.out, HN2.out⟩, below_drewN hb3 _⟩
              case measure => simp [intOf]; omega
          · obtain rfl : m = k := by omega
            obtain rfl : r = -1 := by
              rcases HF.out with ⟨h, _⟩ | ⟨j1, _, hj1, hq1, _⟩
              · exact h
              · exact absurd hq1 (HN.out j1 hj1)
            have g0 := (hb3.cell (p := ⟨w2.heap.size, 0, none⟩) (Nat.lt_succ_self _)).trans (World.cell?_alloc_new w2 _ _ 0)
            have g1 := (hb3.cell (p := ⟨w2.heap.size, 1, none⟩) (Nat.lt_succ_self _)).trans (World.cell?_alloc_new w2 _ _ 1)
            have g2 := (hb3.cell (p := ⟨w2.heap.size, 2, none⟩) (Nat.lt_succ_self _)).trans (World.cell?_alloc_new w2 _ _ 2)
            have g3 := (hb3.cell (p := ⟨w2.heap.size, 3, none⟩) (Nat.lt_succ_self _)).trans (World.cell?_alloc_new w2 _ _ 3)
            have g4 := (hb3.cell (p := ⟨w2.heap.size, 4, none⟩) (Nat.lt_succ_self _)).trans (World.cell?_alloc_new w2 _ _ 4)
            have g5 := (hb3.cell (p := ⟨w2.heap.size, 5, none⟩) (Nat.lt_succ_self _)).trans (World.cell?_alloc_new w2 _ _ 5)
            simp at g0 g1 g2 g3 g4 g5
            have heq := zero_eq
            have hbl := HP3.out.below.trans (hb4.mono HP3.out.below.size)
            go_wp2
            go_ret
            exact ⟨rfl, hbl⟩
      · have HN : Hid (∀ j, j < j0 → nm j ≠ q) := hno
        have HQ0 : Hid (nm j0 = q) := hq0
        clear hno hq0
        go_wp2
        have hbW : Below w2.heap.size w2 (w2.alloc (.cells #[.string (nm j0), .int .u64 j0, .int .i64 0, .pointer none, .int .i64 j0, .string (nm j0 ++ hash)] 51)) := (Below.refl _ _).alloc (Nat.le_refl _) _
        go_loopw [14, 113] (fun idx i wr3 => ∃ (m : Nat) (r : Int), m ≤ k ∧ i = .int .i64 m ∧ idx = .int .i64 r ∧ IsFirst nm q m r ∧ Below (w2.heap.size + 1) (w2.alloc (.cells #[.string (nm j0), .int .u64 j0, .int .i64 0, .pointer none, .int .i64 j0, .string (nm j0 ++ hash)] 51)) wr3) (fun _ i _ => k - (intOf i).toNat)
        case atStart => exact ⟨0, -1, by omega, rfl, rfl, .inl ⟨rfl, fun j hj => by omega⟩, Below.refl _ _⟩
        case round =>
          obtain ⟨m, r, hmk, rfl, rfl, hfirst, hb3⟩ := hrel
          have HF : Hid (IsFirst nm q m r) := hfirst
          clear hfirst
          have hb4 := hbW.trans (hb3.mono (Nat.le_succ _))
          by_cases hlt2 : m < k
          · rcases HR.out with ⟨_, h0⟩ | ⟨bb, oo, haa, hbl2, hc2⟩
            · omega
            obtain ⟨rfl, rfl⟩ : b = bb ∧ off = oo := by simpa using haa
            obtain ⟨hck, hsk⟩ := hc2 m hlt2
            have hbl3 : b < w2.heap.size := by have := HP3.out.below.size; omega
            have hckr : wr.cell? ⟨b, off + m, none⟩ = some (.string (nm m)) := (hb4.cell (p := ⟨b, off + m, none⟩) hbl3).trans ((HP3.out.below.cell (p := ⟨b, off + m, none⟩) hbl2).trans hck)
            have c3 := (hb4.cell (by exact hz1)).trans d3
            have hs := HP3.out.snaps.later hb4 HP3.out.snaps.lt
            have c0 := hs.c0 m hlt2
            have c4 := hs.c4 m hlt2
            have c5 := hs.c5 m hlt2
            have c5' : wr.cell? ⟨w.heap.size, m * 6 + 5, none⟩ = some (.string (nm m ++ ⟨#[35]⟩)) := c5
            have i0 : (0 : Int) ≤ (m : Int) := by omega
            have i1 : (m : Int) < (k : Int) := by omega
            have hs1 : ¬ 9223372036854775807 ≤ (nm m).size := by omega
            clear hs hc2 hck c5 d0 d1 d2 d3 e0
            go_wp2
            go_quiet (fail)
            rcases HF.out with ⟨rfl, hno2⟩ | ⟨j1, rfl, hj1, hq1, hno2⟩
            · have HN2 : Hid (∀ j, j < m → nm j ≠ q) := hno2
              clear hno2
              by_cases hqm : nm m = q
              · have hqe := str_eq hqm
                have HQ : Hid (nm m = q) := hqm
                clear hqm
                go_wp2
                go_roundw
                case rel => exact ⟨m + 1, m, by omega, by go_num, rfl, .inr ⟨m, rfl, by omega, HQ.out, HN2.out⟩, below_drewN hb3 _⟩
                case measure => simp [intOf]; omega
              · have hqe := str_ne hqm
                have HQ : Hid (¬ nm m = q) := hqm
                clear hqm
                go_wp2
                go_roundw
                case rel => exact ⟨m + 1, -1, by omega, by go_num, rfl, .inl ⟨rfl, fun j hj => if h : j = m then h ▸ HQ.out else HN2.out j (by omega)⟩, below_drewN hb3 _⟩
                case measure => simp [intOf]; omega
            · have HN2 : Hid (∀ j, j < j1 → nm j ≠ q) := hno2
              have HQ : Hid (nm j1 = q) := hq1
              clear hno2 hq1
              go_wp2
              go_roundw
              case rel => exact ⟨m + 1, j1, by omega, by go_num, rfl, .inr ⟨j1, rfl, by omega, HQ.out, HN2.out⟩, below_drewN hb3 _⟩
              case measure => simp [intOf]; omega
          · obtain rfl : m = k := by omega
            obtain rfl : r = j0 := by
              rcases HF.out with ⟨_, h⟩ | ⟨j1, hr1, hj1, hq1, hn1⟩
              · exact absurd HQ0.out (h j0 hj0)
              · have h1 : ¬ j1 < j0 := fun h => HN.out j1 h hq1
                have h2 : ¬ j0 < j1 := fun h => hn1 j0 h HQ0.out
                omega
            have g0 := (hb3.cell (p := ⟨w2.heap.size, 0, none⟩) (Nat.lt_succ_self _)).trans (World.cell?_alloc_new w2 _ _ 0)
            have g1 := (hb3.cell (p := ⟨w2.heap.size, 1, none⟩) (Nat.lt_succ_self _)).trans (World.cell?_alloc_new w2 _ _ 1)
            have g2 := (hb3.cell (p := ⟨w2.heap.size, 2, none⟩) (Nat.lt_succ_self _)).trans (World.cell?_alloc_new w2 _ _ 2)
            have g3 := (hb3.cell (p := ⟨w2.heap.size, 3, none⟩) (Nat.lt_succ_self _)).trans (World.cell?_alloc_new w2 _ _ 3)
            have g4 := (hb3.cell (p := ⟨w2.heap.size, 4, none⟩) (Nat.lt_succ_self _)).trans (World.cell?_alloc_new w2 _ _ 4)
            have g5 := (hb3.cell (p := ⟨w2.heap.size, 5, none⟩) (Nat.lt_succ_self _)).trans (World.cell?_alloc_new w2 _ _ 5)
            simp at g0 g1 g2 g3 g4 g5
            rcases HR.out with ⟨_, h0⟩ | ⟨bb, oo, haa, hbl2, hc2⟩
            · omega
            obtain ⟨rfl, rfl⟩ : b = bb ∧ off = oo := by simpa using haa
            obtain ⟨hck, hsk⟩ := hc2 j0 hj0
            have hbl3 : b < w2.heap.size := by have := HP3.out.below.size; omega
            have hckr : wr.cell? ⟨b, off + j0, none⟩ = some (.string (nm j0)) := (hb4.cell (p := ⟨b, off + j0, none⟩) hbl3).trans ((HP3.out.below.cell (p := ⟨b, off + j0, none⟩) hbl2).trans hck)
            have i0 : (0 : Int) ≤ (j0 : Int) := by omega
            have i1 : (j0 : Int) < (m : Int) := by omega
            have hs1 : ¬ 9223372036854775807 ≤ (nm j0).size := by omega
            have hs2 : ¬ 9223372036854775807 < (nm j0).size + 1 := by omega
            have hadd : ∀ W : World, (binOp .add 9 (.string (nm j0)) (.string ⟨#[35]⟩)).run Ybaf.prog W = .ok (.string (nm j0 ++ ⟨#[35]⟩)) W := fun W => by
              rw [binOp_string_add]; exact run_string_add_sum W (nm j0) hash hsk
            have hqe := str_eq HQ0.out
            have g5' : wr.cell? ⟨w2.heap.size, 5, none⟩ = some (.string (nm j0 ++ ⟨#[35]⟩)) := g5
            have hbl := HP3.out.below.trans (hb4.mono HP3.out.below.size)
            clear g5 hc2 hck d0 d1 d2 d3 e0 hb3 hbW
            go_wp2
            clear hsk hgl hz0 hz1 hmk hlt2 hk hlt
            go_region_held3 (fun w' => w'.cell? ⟨w2.heap.size, 0, none⟩ = some (.string (nm j0)) ∧ w'.cell? ⟨w2.heap.size, 1, none⟩ = some (.int .u64 j0) ∧ w'.cell? ⟨w2.heap.size, 2, none⟩ = some (.int .i64 0) ∧ w'.cell? ⟨w2.heap.size, 3, none⟩ = some (.pointer none) ∧ w'.cell? ⟨w2.heap.size, 4, none⟩ = some (.int .i64 j0) ∧ w'.cell? ⟨w2.heap.size, 5, none⟩ = some (.string (nm j0 ++ ⟨#[35]⟩)) ∧ w'.cell? ⟨b, off + j0, none⟩ = some (.string (nm j0))) (first | with_reducible exact ⟨cell2 g0, cell2 g1, cell2 g2, cell2 g3, cell2 g4, cell2 g5', cell2 hckr⟩ | with_reducible exact ⟨cell4 g0, cell4 g1, cell4 g2, cell4 g3, cell4 g4, cell4 g5', cell4 hckr⟩ | go_keep) ((first | (go_at_call 12; refine (Tm.add_any (j0 : Int) _ (by omega) (by omega)).mono ?_; rintro e w' ⟨rfl, rfl⟩) | (go_at_call 14; refine (Tm.equal_any (j0 : Int) _ (by omega) (by omega)).mono ?_; rintro e w' ⟨rfl, rfl⟩)))
            all_goals go_wp2
            all_goals go_ret
            all_goals exact ⟨rfl, below4 hbl⟩

end Go.Proofs.YbulkcwhsFmt.Find
