/-
  THE WALK OF 'LawS4894AExact' (function 3).
-/
import Derived.Test.YbulkcwigUint
namespace Go.Proofs.Ybulkcwig.Dig
open Go.RowKit

theorem nd_unique {m a b : Nat} (ha : Nd m a) (hb : Nd m b) : a = b := by
  rcases Nat.lt_trichotomy a b with h | h | h
  · exfalso
    have h1 : m / 10 ^ (b - 1) = 0 := by
      have : 10 ^ a ≤ 10 ^ (b - 1) := Nat.pow_le_pow_right (by omega) (by omega)
      have h2 : m < 10 ^ a := (Nat.div_eq_zero_iff_lt (Nat.pow_pos (by omega))).1 ha.2.2.1
      exact Nat.div_eq_of_lt (by omega)
    rcases hb.2.2.2 with h3 | h3
    · have := ha.1; omega
    · exact h3 h1
  · exact h
  · exfalso
    have h1 : m / 10 ^ (a - 1) = 0 := by
      have : 10 ^ b ≤ 10 ^ (a - 1) := Nat.pow_le_pow_right (by omega) (by omega)
      have h2 : m < 10 ^ b := (Nat.div_eq_zero_iff_lt (Nat.pow_pos (by omega))).1 hb.2.2.1
      exact Nat.div_eq_of_lt (by omega)
    rcases ha.2.2.2 with h3 | h3
    · have := hb.1; omega
    · exact h3 h1

/-- Bytes as cells. -/
def bs (n : Nat) (x : Nat → Int) : List Value := (List.range n).map fun j => .int .u8 (x j)
theorem bs_length (n : Nat) (x : Nat → Int) : (bs n x).length = n := by simp [bs]
theorem bs_get {n j : Nat} {x : Nat → Int} {v : Value} (h : (bs n x)[j]? = some v) : j < n ∧ v = .int .u8 (x j) := by
  have hj : j < n := by
    have := (List.getElem?_eq_some_iff.1 h).1
    simpa [bs] using this
  refine ⟨hj, ?_⟩
  simp [bs, List.getElem?_range hj] at h
  exact h.symm
theorem bs_one (n : Nat) (x : Nat → Int) : ∀ v ∈ bs n x, v.oneCell' = true := fun v hv => by
  obtain ⟨_, _, rfl⟩ := List.mem_map.1 hv
  rfl

theorem Bytes.src {w : World} {a : Option Addr} {n cap : Nat} {x : Nat → Int} (h : Bytes w a n x) (h0 : a = none → n = 0) : Src Yba.prog 1 22 (.slice a n cap) n (bs n x) w := by
  rcases a with _ | ad
  · obtain rfl := h0 rfl
    exact Src.ofNil w Yba.underlying22 cap
  · refine Src.ofSlice w Yba.underlying22 ad n cap (bs n x) (by rw [bs_length, Nat.mul_one]) (fun j v hv => ?_) (bs_one n x)
    obtain ⟨hj, rfl⟩ := bs_get hv
    rcases h with h | ⟨b, o, ha, _, hc⟩
    · omega
    · obtain rfl : ad = ⟨b, o, none⟩ := by simpa using ha
      rw [Addr.add_lit]; exact hc j hj

/-- 'copy(b, prefix)' into a new buffer. -/
theorem copy_run {w : World} {a : Option Addr} {g n cap c : Nat} {x : Nat → Int} (h : Bytes w a n x) (h0 : a = none → n = 0) (hroom : ∀ j, j < n → (w.cell? ⟨g, j, none⟩).isSome = true) (hfree : ∀ j, j < n → w.frozen? ⟨g, j, none⟩ = false) :
    (Builtin.copy_ #[22, 22] 3 #[.slice (some ⟨g, 0, none⟩) n c, .slice a n cap]).run Yba.prog w = .ok (goInt n) (w.setCells g 0 (bs n x)) := by
  by_cases hn : n = 0
  · subst hn
    exact run_copy_none w 22 22 3 5 _ _ _ _ _ _ Yba.underlying22 (by kernel_rfl) rfl
  · rcases a with _ | ad
    · exact absurd (h0 rfl) hn
    · rcases h with h | ⟨b, o, ha, _, hc⟩
      · exact absurd h hn
      · obtain rfl : ad = ⟨b, o, none⟩ := by simpa using ha
        have := run_copy_cells (P := Yba.prog) w 22 22 3 5 g 0 n c ⟨b, o, none⟩ n cap (bs n x) Yba.underlying22 (by kernel_rfl) (by rw [bs_length]; simp) (fun j v hv => by
          obtain ⟨hj, rfl⟩ := bs_get hv
          rw [Addr.add_lit]; exact hc j hj) (fun j hj => by rw [bs_length] at hj; simpa using hroom j hj) (fun j hj => by rw [bs_length] at hj; simpa using hfree j hj) (bs_one n x)
        rw [bs_length] at this
        exact this

/-- A new row of zeros. -/
theorem buf_made (W : World) (c : Nat) : Buf (W.alloc (.cells (madeCells #[.int .u8 0] c) 5)) W.heap.size 0 c (fun _ => 0) :=
  ⟨by simp, by omega, fun j hj => by rw [World.cell?_alloc_new]; simp [size_madeCells, hj], fun j _ => World.frozen?_alloc_new W _ _ j, fun j hj => by omega⟩

/-- Bytes written behind those that are there. -/
theorem Buf.put {w : World} {g n k c : Nat} {x y : Nat → Int} (h : Buf w g n c x) (hc : n + k ≤ c) : Buf (w.setCells g n (bs k y)) g (n + k) c (fun j => if j < n then x j else y (j - n)) := by
  have hin := World.cell?_setCells_in g (bs k y) n w (fun j hj => by rw [bs_length] at hj; exact h.room _ (by omega))
  have hout : ∀ j, (j < n ∨ n + k ≤ j) → (w.setCells g n (bs k y)).cell? ⟨g, j, none⟩ = w.cell? ⟨g, j, none⟩ := fun j hj => World.cell?_setCells_out g _ n w ⟨g, j, none⟩ (fun _ _ => by rw [bs_length]; exact hj)
  refine ⟨by rw [setCells_size]; exact h.lt, hc, fun j hj => ?_, fun j hj => by rw [World.frozen?_setCells]; exact h.free j hj, fun j hj => ?_⟩
  · by_cases hj2 : n ≤ j ∧ j < n + k
    · have := hin (j - n) (by rw [bs_length]; omega)
      rw [show n + (j - n) = j by omega] at this
      rw [this]; rfl
    · rw [hout j (by omega)]; exact h.room j hj
  · by_cases hj2 : j < n
    · rw [hout j (.inl hj2), if_pos hj2]; exact h.at_ j hj2
    · have := hin (j - n) (by rw [bs_length]; omega)
      rw [show n + (j - n) = j by omega] at this
      rw [this, if_neg hj2]; simp [bs]

theorem Buf.congr {w : World} {g n c : Nat} {x y : Nat → Int} (h : Buf w g n c x) (e : ∀ j, j < n → x j = y j) : Buf w g n c y :=
  ⟨h.lt, h.le, h.room, h.free, fun j hj => by rw [← e j hj]; exact h.at_ j hj⟩

theorem Buf.bytes {w : World} {g n c : Nat} {x : Nat → Int} (h : Buf w g n c x) : Bytes w (some ⟨g, 0, none⟩) n x := .inr ⟨g, 0, rfl, h.lt, fun i hi => by rw [Nat.zero_add]; exact h.at_ i hi⟩

/-- 'append(want, xs...)' where there is room. -/
theorem append_run {w : World} {a : Option Addr} {g n k cap c : Nat} {x y : Nat → Int} (hB : Buf w g n c x) (h : Bytes w a k y) (h0 : a = none → k = 0) (hc : n + k ≤ c) :
    (Builtin.append_ #[22, 22] 22 #[.slice (some ⟨g, 0, none⟩) n c, .slice a k cap]).run Yba.prog w = .ok (.slice (some ⟨g, 0, none⟩) (n + k) c) (w.setCells g n (bs k y)) := by
  obtain ⟨i, hi, hz, hs, hby⟩ := info_parts info5
  have := run_append_room_src w 22 22 22 5 i Yba.underlying22 hi g 0 n c (.slice a k cap) k (bs k y) (by rw [hs]; exact h.src h0) hc (fun j hj => by rw [bs_length] at hj; rw [hs]; simpa using hB.room (n + j) (by omega)) (fun j hj => by rw [bs_length] at hj; rw [hs]; simpa using hB.free (n + j) (by omega))
  rw [hs] at this
  simpa using this

end Go.Proofs.Ybulkcwig.Dig
