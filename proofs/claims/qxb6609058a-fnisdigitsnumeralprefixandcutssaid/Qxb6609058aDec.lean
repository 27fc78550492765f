import Derived.Test.Qxb6609058aIns
namespace Go.Proofs.Qxb6609058a
open Go.RowKit

/-- The digits from place p on. -/
def DR (arr : Array Value) (p : Nat) (ds : List UInt8) : Prop := arr.size = 20 ∧ ds.length + p = 20 ∧ ds.all dB = true ∧ ∀ j (h : j < ds.length), arr[p + j]? = some (bv ds[j])
/-- N has at most p digits. -/
def Lim (N p : Nat) : Prop := N < 10 ^ p

theorem lim_pos {N q : Nat} (h : Lim N (q + 1)) (hn : ((N : Int) / 10 == 0) = false) : ∃ p, q = p + 1 := by
  cases q with
  | zero => simp [Lim] at h; simp at hn; omega
  | succ p => exact ⟨p, rfl⟩
theorem lim_div {N q : Nat} (h : Lim N (q + 1)) : Lim (N / 10) q := by
  unfold Lim at *
  rw [Nat.pow_succ] at h
  exact Nat.div_lt_of_lt_mul (by rw [Nat.mul_comm]; exact h)
theorem dr_step {arr : Array Value} {q N : Nat} {ds : List UInt8} (h : DR arr (q + 1) ds) : ∃ ds', DR (arr.setIfInBounds q (.int .u8 (48 + (N : Int) % 10))) q ds' := by
  obtain ⟨h1, h2, h3, h4⟩ := h
  have hc : (UInt8.ofNat (48 + N % 10)).toNat = 48 + N % 10 := by simp [UInt8.toNat_ofNat']; omega
  refine ⟨UInt8.ofNat (48 + N % 10) :: ds, by simpa using h1, by simp; omega, ?_, ?_⟩
  · rw [List.all_cons, h3, Bool.and_true]
    unfold dB
    rw [hc, decide_eq_true_iff]
    omega
  · intro j hj
    cases j with
    | zero =>
      rw [Nat.add_zero, Array.getElem?_setIfInBounds_self, if_pos (by omega)]
      simp only [List.getElem_cons_zero, bv, hc]
      congr 2
    | succ j =>
      have := h4 j (by simpa using hj)
      rw [Array.getElem?_setIfInBounds_ne (by omega)]
      have e : q + (j + 1) = q + 1 + j := by omega
      rw [e, this]
      simp

/-- What zzDecimal leaves: a new row of one to twenty digits. -/
def DecPost (w : World) (e : Ending) (w' : World) : Prop := ∃ (g k cap : Nat) (l : List UInt8), e = .returned (.slice (some ⟨g, 0, none⟩) k cap) ∧ w'.ownsRow w.heap.size 5 1 (.slice (some ⟨g, 0, none⟩) k cap) k (bvs l) ∧ l.length = k ∧ 0 < k ∧ k ≤ 20 ∧ l.all dB = true ∧ Below w.heap.size w w'

set_option maxHeartbeats 1000000 in
theorem decimal_any (n : Nat) (w : World) (hn : n ≤ 18446744073709551615) :
    Calls Try.prog 9 #[.int .u64 n] w (DecPost w) := by
  obtain ⟨i0, hi, hz0, hz1, hz2⟩ := info_parts info5
  have hL : Lim n 20 := by unfold Lim; omega
  go_enter Try.func9, Try.ntmps9
  go_wp2
  go_loopw [0, 4] (fun nv pv wr => ∃ N q : Nat, nv = .int .u64 N ∧ pv = .int .i64 ((q : Int) + 1) ∧ q ≤ 19 ∧ Lim N (q + 1) ∧ N ≤ 18446744073709551615 ∧ ∃ arr ds, wr = w.alloc (.cells arr 29) ∧ DR arr (q + 1) ds) (fun _ pv _ => (intOf pv).toNat)
  case atStart => exact ⟨n, 19, rfl, rfl, by omega, hL, hn, _, [], rfl, rfl, rfl, rfl, fun j h => by simp at h⟩
  case round =>
    clear hn hL n
    obtain ⟨N, q, rfl, rfl, hq, hL, hN, arr, ds, rfl, hD⟩ := hrel
    have HS : Hid (arr.size = 20) := hD.1
    have hqs : q < arr.size := by have := HS.out; omega
    obtain ⟨ds', hD'⟩ := dr_step (N := N) hD
    clear hD
    cases ht : ((N : Int) / 10 == 0)
    · obtain ⟨p, rfl⟩ := lim_pos hL ht
      go_wp2_with fail
      go_roundw
      case rel => exact ⟨N / 10, p, by go_num, by go_num, by omega, lim_div hL, by omega, _, ds', rfl, hD'⟩
      case measure => simp [intOf]; omega
    · obtain ⟨arr', he⟩ : ∃ arr', Hid (arr.setIfInBounds q (.int .u8 (48 + (N : Int) % 10)) = arr') := ⟨_, rfl⟩
      obtain ⟨cap, hcap⟩ : ∃ cap : Nat, Hid ((20 : Int) - (q : Int) = (cap : Int)) := ⟨20 - q, by show _ = _; omega⟩
      have hc1 : cap + q = 20 := by have := hcap.out; omega
      have HC1 : Hid (cap + q = 20) := hc1
      have hc2 : cap ≤ 20 := by omega
      clear hc1
      go_wp2_with (at_make; refine wpList_make_own _ rfl _ _ 24 rfl w.heap.size 5 i0 (.int .u8 0) 1 Try.underlying24 hi hz0 hz1 .i64 .i64 _ cap rfl rfl hcap.out ?mb ?ml ?mbase ?_)
      case mb => rw [hz2]; omega
      case ml => unfold maxLen; omega
      case mbase => simp
      intro w1 hown hgrow
      have hb1 : Below (w.heap.size + 1) (w.alloc (.cells (arr.setIfInBounds q (.int .u8 (48 + (N : Int) % 10))) 29)) w1 := (Below.refl _ _).grown hgrow (by simp) (by intro k hk; cases hk)
      have hb0 : Below w.heap.size w (w.alloc (.cells (arr.setIfInBounds q (.int .u8 (48 + (N : Int) % 10))) 29)) := (Below.refl _ _).alloc (Nat.le_refl _) _
      have hs0 : w.heap.size + 1 ≤ (w.alloc (.cells (arr.setIfInBounds q (.int .u8 (48 + (N : Int) % 10))) 29)).heap.size := by simp
      have hcl0 : ∀ k (h : k < ds'.length), (w.alloc (.cells (arr.setIfInBounds q (.int .u8 (48 + (N : Int) % 10))) 29)).cell? ⟨w.heap.size, q + k, none⟩ = some (bv ds'[k]) := by
        intro k h
        rw [World.cell?_alloc_at _ _ _ _ rfl]
        exact hD'.2.2.2 k h
      have hlen : ds'.length = cap := by have := hD'.2.1; have := HC1.out; omega
      have hall : ds'.all dB = true := hD'.2.2.1
      have HLEN : Hid (ds'.length = cap) := hlen
      have HALL : Hid (ds'.all dB = true) := hall
      clear hlen hall hD' hgrow hL
      go_wp2
      revert hb1 hb0 hs0 hcl0
      generalize (w.alloc (.cells (arr.setIfInBounds q (.int .u8 (48 + (N : Int) % 10))) 29)) = W0
      intro hb1 hb0 hs0 hcl0
      go_loopw [5, 6] (fun v i wr => ∃ k : Nat, k ≤ cap ∧ i = .int .i64 ((q : Int) + (k : Int)) ∧ v = .slice (some ⟨w.heap.size + 1, 0, none⟩) k cap ∧ wr.ownsRow w.heap.size 5 1 (.slice (some ⟨w.heap.size + 1, 0, none⟩) k cap) k (bvs (ds'.take k)) ∧ Below (w.heap.size + 1) W0 wr)
        (fun _ i _ => (20 - intOf i).toNat)
      case atStart => exact ⟨0, Nat.zero_le _, by go_num, rfl, hown, hb1⟩
      case round =>
        clear hown hb1
        obtain ⟨k, hk, rfl, rfl, hown, hbel⟩ := hrel
        have hbs : w.heap.size + 1 ≤ wr.heap.size := Nat.le_trans hs0 hbel.size
        by_cases hlt : k < cap
        · have hkd : k < ds'.length := by have := HLEN.out; omega
          have hx : (q : Int) + (k : Int) < 20 := by have := HC1.out; omega
          have hx2 : q + k < 20 := by omega
          have hcx : wr.cell? ⟨w.heap.size, q + k, none⟩ = some (.int .u8 (ds'[k].toNat : Int)) := (hbel.cell (p := ⟨w.heap.size, q + k, none⟩) (by simp)).trans (hcl0 k hkd)
          go_wp2_with (at_builtin; refine wpList_append_fits _ rfl _ _ 24 rfl w.heap.size 5 i0 1 Try.underlying24 hi hz1 (w.heap.size + 1) k cap _ rfl (hown.alloc _) ⟨wr.heap.size, 0, none⟩ 1 1 [bv ds'[k]] rfl rfl ?c1 ?c2 ?c3 ?_)
          case c1 => exact news_at _ _ _
          case c2 => intro u hu; simp at hu; subst hu; rfl
          case c3 => omega
          intro w3 hown2 hgrow2
          have hbel2 := below_step hbel hbs hgrow2
          have hown3 : w3.ownsRow w.heap.size 5 1 (.slice (some ⟨w.heap.size + 1, 0, none⟩) (k + 1) cap) (k + 1) (bvs (ds'.take (k + 1))) := by
            rw [List.take_succ_eq_append_getElem hkd, bvs_snoc]; exact hown2
          clear hown2 hgrow2 hown hbel
          go_wp2
          go_roundw
          case rel => exact ⟨k + 1, by omega, by go_num, rfl, hown3, hbel2⟩
          case measure => simp [intOf]; omega
        · have hkc : k = cap := by omega
          subst hkc
          have hx : ¬ (q : Int) + (k : Int) < 20 := by have := HC1.out; omega
          have HO : wr.ownsRow w.heap.size 5 1 (.slice (some ⟨w.heap.size + 1, 0, none⟩) k k) k (bvs ds') := by
            have := hown
            rw [List.take_of_length_le (by have := HLEN.out; omega)] at this
            exact this
          clear hown
          go_wp2
          go_ret
          exact ⟨_, _, _, ds', rfl, HO, HLEN.out, by have := HC1.out; omega, by omega, HALL.out, hb0.trans (hbel.mono (by omega))⟩

end Go.Proofs.Qxb6609058a
