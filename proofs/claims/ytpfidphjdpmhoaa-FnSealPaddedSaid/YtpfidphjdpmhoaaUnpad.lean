/- The check of a padding: the reference and the code find the same number of bytes. -/
import Derived.Test.YtpfidphjdpmhoaaBytes
namespace Go.Proofs.Ytpfidphjdpmhoaa
open Go.RowKit

/-- The padding at the end: as many bytes as the last one tells, each of which tells it. -/
def upOk (xs : List Int) : Bool := decide ((xs.getD (xs.length - 1) 0).toNat ≤ xs.length ∧ ∀ i, i < (xs.getD (xs.length - 1) 0).toNat → xs.getD (xs.length - 1 - i) 0 = xs.getD (xs.length - 1) 0)
def upN (xs : List Int) : Int := if upOk xs = true then xs.getD (xs.length - 1) 0 else 0

def upG (xs : List Int) : Int := if upOk xs = true then 255 else 0

theorem upOk_no_len {xs : List Int} (h : (xs.length : Int) < xs.getD (xs.length - 1) 0) : upOk xs = false := by
  unfold upOk
  simp only [decide_eq_false_iff_not, not_and]
  omega
theorem upOk_no_at {xs : List Int} {k : Nat} (h : (k : Int) < xs.getD (xs.length - 1) 0) (hne : xs.getD (xs.length - 1 - k) 0 ≠ xs.getD (xs.length - 1) 0) : upOk xs = false := by
  unfold upOk
  simp only [decide_eq_false_iff_not, not_and]
  intro _ hall
  exact hne (hall k (by omega))
theorem upOk_yes {xs : List Int} (h : xs.getD (xs.length - 1) 0 ≤ xs.length) (hall : ∀ i : Nat, (i : Int) < xs.getD (xs.length - 1) 0 → xs.getD (xs.length - 1 - i) 0 = xs.getD (xs.length - 1) 0) : upOk xs = true := by
  unfold upOk
  simp only [decide_eq_true_eq]
  exact ⟨by omega, fun i hi => hall i (by omega)⟩

theorem ret2 {a b : Int} {c d : Bool} (h : a = b) (h' : c = d) : Ending.returned (.tuple #[.int .i64 a, .bool c]) = .returned (.tuple #[.int .i64 b, .bool d]) := by rw [h, h']

set_option maxHeartbeats 1000000 in
theorem spec_unpad (v : Value) (xs : List Int) (w : World) (h : Bs w v xs) (hx : Byt xs) (hl : 0 < xs.length) (hl2 : xs.length ≤ 1000) :
   Calls Try.prog 8 #[v] w fun e w' => e = .returned (.tuple #[.int .i64 (upN xs), .bool (upOk xs)]) ∧ w = w' := by
  obtain ⟨p, c, rfl, hc, hn, hxx⟩ := h
  obtain ⟨b, o, rfl, hcell⟩ := hxx hl
  clear hn hxx
  have hlast := hcell (xs.length - 1) (by omega)
  have hp := hx (xs.getD (xs.length - 1) 0) (by simp [List.getD, show xs.length - 1 < xs.length by omega])
  obtain ⟨hp0, hp1⟩ := hp
  have hne : ((xs.length : Int) == 0) = false := beq_eq_false_iff_ne.2 (by omega)
  have hcell' : ∀ k : Nat, (k : Int) < xs.length → w.cell? ⟨b, o + (xs.length - 1 - k), none⟩ = some (.int .u8 (xs.getD (xs.length - 1 - k) 0)) := fun k hk => hcell _ (by omega)
  clear hcell
  generalize hpp : xs.getD (xs.length - 1) 0 = q at *
  by_cases hbig : (xs.length : Int) < q
  · have hno := upOk_no_len (xs := xs) (by rw [hpp]; exact hbig)
    have Hno : Hid (upOk xs = false) := hno
    have Hpp := Lib.hid hpp
    clear hno hpp
    go_enter Try.func8, Try.ntmps8
    go_wp2
    go_ret2
    exact ⟨ret2 (by unfold upN; rw [Hno.out]; rfl) Hno.out.symm, rfl⟩
  · have hbig : q ≤ xs.length := Int.not_lt.1 hbig
    have Hpp := Lib.hid hpp
    clear hpp
    go_enter Try.func8, Try.ntmps8
    go_wp2
    go_loop [21] (fun t => ∃ k : Nat, (k : Int) ≤ q ∧ t = .int .i64 k ∧ ∀ i : Nat, i < k → xs.getD (xs.length - 1 - i) 0 = q) (fun t => (q - intOf t).toNat)
    case atStart => exact ⟨0, by omega, rfl, fun i hi => by omega⟩
    case round =>
      obtain ⟨k, hk, rfl, hall⟩ := hrel
      have Hall := Lib.hid hall
      clear hall
      by_cases hlt : (k : Int) < q
      · have hck := hcell' k (by omega)
        have hpk : 0 ≤ xs.getD (xs.length - 1 - k) 0 ∧ xs.getD (xs.length - 1 - k) 0 < 256 := hx _ (by simp [List.getD, show xs.length - 1 - k < xs.length by omega])
        obtain ⟨hpk0, hpk1⟩ := hpk
        clear hcell' hlast
        generalize hqq : xs.getD (xs.length - 1 - k) 0 = r at *
        have Hqq := Lib.hid hqq
        clear hqq
        by_cases heq : r = q
        · have h1 : (r != q) = false := by rw [heq]; simp
          have Heq := Lib.hid heq
          clear heq
          go_wp2
          go_round
          case rel => exact ⟨k + 1, by omega, by go_num, fun i hi => by
            rcases Nat.lt_or_ge i k with h | h
            · exact Hall.out i h
            · obtain rfl : i = k := by omega
              rw [Hqq.out, Heq.out]⟩
          case measure => simp [intOf]; omega
        · have h1 : (r != q) = true := by simpa using heq
          have Hno := Lib.hid (upOk_no_at (xs := xs) (k := k) (by rw [Hpp.out]; exact hlt) (by rw [Hpp.out, Hqq.out]; exact heq))
          clear heq
          go_wp2
          go_ret2
          exact ⟨ret2 (by unfold upN; rw [Hno.out]; rfl) Hno.out.symm, rfl⟩
      · have Hyes := Lib.hid (upOk_yes (xs := xs) (by rw [Hpp.out]; exact hbig) (fun i hi => by rw [Hpp.out] at hi ⊢; exact Hall.out i (by omega)))
        go_wp2
        go_ret2
        exact ⟨ret2 (by unfold upN; rw [Hyes.out, Hpp.out]; rfl) Hyes.out.symm, rfl⟩

def c1 (z : Int) : Int := bits .and .u8 z (z * 16 % 256)
def c2 (z : Int) : Int := bits .and .u8 z (z * 4 % 256)
def c3 (z : Int) : Int := bits .and .u8 z (z * 2 % 256)
def fin8 (z : Int) : Int := IntKind.i8.wrap (c3 (c2 (c1 z))) / 128 % 256
theorem fin8_all : ∀ z : Fin 256, fin8 (z.val : Int) = if z.val = 255 then 255 else 0 := by decide +kernel
theorem fin8_eq (z : Int) (h0 : 0 ≤ z) (h1 : z < 256) : fin8 z = if z = 255 then 255 else 0 := by
  have := fin8_all ⟨z.toNat, by omega⟩
  have e : ((z.toNat : Nat) : Int) = z := by omega
  simp only [e] at this
  rw [this]
  split <;> split <;> omega
theorem and255 (q : Int) (h0 : 0 ≤ q) (h1 : q < 256) : bits .and .u8 q 255 = q := by
  have h : ∀ z : Fin 256, bits .and .u8 (z.val : Int) 255 = (z.val : Int) := by decide +kernel
  have := h ⟨q.toNat, by omega⟩
  have e : ((q.toNat : Nat) : Int) = q := by omega
  simpa only [e] using this
theorem and255' (q : Int) (h0 : 0 ≤ q) (h1 : q < 256) : bits .and .u8 255 q = q := by
  have h : ∀ z : Fin 256, bits .and .u8 255 (z.val : Int) = (z.val : Int) := by decide +kernel
  have := h ⟨q.toNat, by omega⟩
  have e : ((q.toNat : Nat) : Int) = q := by omega
  simpa only [e] using this
theorem and0 (q : Int) (h0 : 0 ≤ q) (h1 : q < 256) : bits .and .u8 q 0 = 0 := by
  have h : ∀ z : Fin 256, bits .and .u8 (z.val : Int) 0 = 0 := by decide +kernel
  have := h ⟨q.toNat, by omega⟩
  have e : ((q.toNat : Nat) : Int) = q := by omega
  simpa only [e] using this
theorem and0' (q : Int) (h0 : 0 ≤ q) (h1 : q < 256) : bits .and .u8 0 q = 0 := by
  have h : ∀ z : Fin 256, bits .and .u8 0 (z.val : Int) = 0 := by decide +kernel
  have := h ⟨q.toNat, by omega⟩
  have e : ((q.toNat : Nat) : Int) = q := by omega
  simpa only [e] using this
/-- The mask that the code makes of the sign of a difference. -/
def msk (t : Int) : Int := wrap32 (bits .xor .u64 IntKind.u64.max t) / 2147483648 % 256
theorem msk_pos (t : Int) (h0 : 0 ≤ t) (h1 : t ≤ 1000) : msk t = 255 := by
  have h : ∀ z : Fin 1001, msk (z.val : Int) = 255 := by decide +kernel
  have := h ⟨t.toNat, by omega⟩
  have e : ((t.toNat : Nat) : Int) = t := by omega
  simpa only [e] using this
theorem msk_neg (d : Int) (h0 : 0 < d) (h1 : d ≤ 1000) : msk (IntKind.u64.wrap (-d)) = 0 := by
  have h : ∀ z : Fin 1000, msk (IntKind.u64.wrap (-((z.val : Int) + 1))) = 0 := by decide +kernel
  have := h ⟨(d - 1).toNat, by omega⟩
  have e : (((d - 1).toNat : Nat) : Int) + 1 = d := by omega
  simpa only [e] using this
theorem msk_sub (a b : Int) (h0 : 0 ≤ a) (h1 : a ≤ 1000) (h2 : 0 ≤ b) (h3 : b ≤ 1000) : msk (IntKind.u64.wrap (a - b)) = if b ≤ a then 255 else 0 := by
  split
  · rename_i h
    have : IntKind.u64.wrap (a - b) = a - b := by simp only [IntKind.wrap, IntKind.bits, IntKind.signed]; simp; omega
    rw [this]; exact msk_pos _ (by omega) (by omega)
  · rename_i h
    have := msk_neg (b - a) (by omega) (by omega)
    rw [show -(b - a) = a - b by omega] at this
    exact this
/-- One step of the check. -/
def stp (z m q b : Int) : Int := bits .andNot .u8 z (bits .xor .u8 (bits .and .u8 m q) (bits .and .u8 m b))
theorem stp_in (z m q b : Int) (h0 : 0 ≤ z) (h1 : z < 256) (hm : m = 255 ∨ m = 0) (hq0 : 0 ≤ q) (hq1 : q < 256) (hb0 : 0 ≤ b) (hb1 : b < 256) :
    0 ≤ stp z m q b ∧ stp z m q b < 256 ∧ (m = 0 → stp z m q b = z) ∧ (m = 255 → (stp z m q b = 255 ↔ z = 255 ∧ b = q)) := by
  unfold stp
  rcases hm with rfl | rfl
  · rw [and255' q hq0 hq1, and255' b hb0 hb1, u8_xor q b hq0 hq1 hb0 hb1]
    have hx : q.toNat ^^^ b.toNat < 256 := Nat.xor_lt_two_pow (n := 8) (by omega) (by omega)
    rw [u8_andNot z _ h0 h1 (by omega) (by omega)]
    have hle := @Nat.and_le_left z.toNat (255 - ((q.toNat ^^^ b.toNat : Nat) : Int).toNat)
    have hle2 := @Nat.and_le_right z.toNat (255 - ((q.toNat ^^^ b.toNat : Nat) : Int).toNat)
    refine ⟨by omega, by omega, by omega, fun _ => ⟨fun h => ?_, fun ⟨hz, hbq⟩ => ?_⟩⟩
    · have hx0 : q.toNat ^^^ b.toNat = 0 := by omega
      have h2 : q.toNat = b.toNat := by have := congrArg (· ^^^ b.toNat) hx0; simpa [Nat.xor_assoc] using this
      omega
    · subst hz; subst hbq
      simp
  · rw [and0' q hq0 hq1, and0' b hb0 hb1]
    have hh : ∀ y : Fin 256, bits .andNot .u8 (y.val : Int) (bits .xor .u8 0 0) = (y.val : Int) := by decide +kernel
    have := hh ⟨z.toNat, by omega⟩
    have e : ((z.toNat : Nat) : Int) = z := by omega
    simp only [e] at this
    rw [this]
    exact ⟨h0, h1, fun _ => rfl, fun h => by cases h⟩

/-- What is known of the check behind k steps. -/
def GoodAt (xs : List Int) (q z : Int) (k : Nat) : Prop := 0 ≤ z ∧ z < 256 ∧ (z = 255 ↔ q ≤ xs.length ∧ ∀ i : Nat, i < k → (i : Int) < q → xs.getD (xs.length - 1 - i) 0 = q)

theorem good_start (xs : List Int) (q : Int) (h0 : 0 ≤ q) (h1 : q < 256) (hl : xs.length ≤ 1000) : GoodAt xs q (msk (IntKind.u64.wrap ((xs.length : Int) - q))) 0 := by
  rw [msk_sub _ _ (by omega) (by omega) h0 (by omega)]
  unfold GoodAt
  split <;> simp <;> omega

theorem good_step (xs : List Int) (q z : Int) (k : Nat) (h0 : 0 ≤ q) (h1 : q < 256) (hk : k < 256) (h : GoodAt xs q z k) (r : Int) (hr : xs.getD (xs.length - 1 - k) 0 = r) (hr0 : 0 ≤ r) (hr1 : r < 256) :
    GoodAt xs q (stp z (msk (IntKind.u64.wrap (q - ((k : Int) + 1)))) q r) (k + 1) := by
  obtain ⟨hz0, hz1, hz⟩ := h
  rw [msk_sub q ((k : Int) + 1) h0 (by omega) (by omega) (by omega)]
  by_cases hle : (k : Int) + 1 ≤ q
  · rw [if_pos hle]
    obtain ⟨s0, s1, _, s3⟩ := stp_in z 255 q r hz0 hz1 (.inl rfl) h0 h1 hr0 hr1
    refine ⟨s0, s1, (s3 rfl).trans ?_⟩
    rw [hz]
    constructor
    · rintro ⟨⟨a, b⟩, c⟩
      refine ⟨a, fun i hi hq => ?_⟩
      rcases Nat.lt_or_ge i k with h | h
      · exact b i h hq
      · obtain rfl : i = k := by omega
        rw [hr, c]
    · rintro ⟨a, b⟩
      exact ⟨⟨a, fun i hi hq => b i (by omega) hq⟩, by rw [← hr]; exact b k (by omega) (by omega)⟩
  · rw [if_neg hle]
    obtain ⟨s0, s1, s2, _⟩ := stp_in z 0 q r hz0 hz1 (.inr rfl) h0 h1 hr0 hr1
    refine ⟨s0, s1, ?_⟩
    rw [s2 rfl, hz]
    constructor
    · rintro ⟨a, b⟩
      refine ⟨a, fun i hi hq => b i (by omega) hq⟩
    · rintro ⟨a, b⟩
      exact ⟨a, fun i hi hq => b i (by omega) hq⟩

theorem good_end (xs : List Int) (q z : Int) (m : Nat) (hq : xs.getD (xs.length - 1) 0 = q) (h0 : 0 ≤ q) (h1 : q < 256) (hm : 256 ≤ m ∨ xs.length ≤ m) (h : GoodAt xs q z m) :
    fin8 z = upG xs ∧ wrap64 (bits .and .u8 q (fin8 z)) = upN xs := by
  obtain ⟨hz0, hz1, hz⟩ := h
  rw [fin8_eq z hz0 hz1]
  have hu : upOk xs = true ↔ z = 255 := by
    rw [hz]
    constructor
    · intro h
      unfold upOk at h
      rw [hq] at h
      simp only [decide_eq_true_eq] at h
      exact ⟨by omega, fun i _ hi => h.2 i (by omega)⟩
    · rintro ⟨a, b⟩
      exact upOk_yes (by rw [hq]; exact a) (fun i hi => by rw [hq] at hi ⊢; exact b i (by omega) hi)
  unfold upG upN
  by_cases hzz : z = 255
  · rw [if_pos hzz, if_pos (hu.2 hzz), if_pos (hu.2 hzz), and255 q h0 h1, hq]
    exact ⟨rfl, by unfold wrap64; omega⟩
  · have hno : ¬ upOk xs = true := fun h => hzz (hu.1 h)
    rw [if_neg hzz, if_neg hno, if_neg hno, and0 q h0 h1]
    exact ⟨rfl, by unfold wrap64; omega⟩

set_option maxRecDepth 100000 in
set_option maxHeartbeats 1000000 in
theorem extract_pad (v : Value) (xs : List Int) (w : World) (h : Bs w v xs) (hx : Byt xs) (hl : 0 < xs.length) (hl2 : xs.length ≤ 1000) :
   Calls Try.prog 19 #[v] w fun e w' => e = .returned (.tuple #[.int .i64 (upN xs), .int .u8 (upG xs)]) ∧ w = w' := by
  obtain ⟨p, c, rfl, hc, hn, hxx⟩ := h
  obtain ⟨b, o, rfl, hcell⟩ := hxx hl
  clear hn hxx
  have hlast := hcell (xs.length - 1) (by omega)
  have hp := hx (xs.getD (xs.length - 1) 0) (by simp [List.getD, show xs.length - 1 < xs.length by omega])
  obtain ⟨hp0, hp1⟩ := hp
  generalize hpp : xs.getD (xs.length - 1) 0 = q at *
  have Hpp := Lib.hid hpp
  clear hpp
  obtain ⟨T, hT⟩ : ∃ T, IntKind.u64.wrap ((xs.length : Int) - q) = T := ⟨_, rfl⟩
  obtain ⟨m, hm1, hm2, hm3⟩ : ∃ m : Nat, m ≤ 256 ∧ m ≤ xs.length ∧ (256 ≤ m ∨ xs.length ≤ m) := by
    by_cases h : xs.length ≤ 256
    · exact ⟨xs.length, by omega, by omega, .inr (Nat.le_refl _)⟩
    · exact ⟨256, by omega, by omega, .inl (Nat.le_refl _)⟩
  have Hst := Lib.hid (good_start xs q hp0 hp1 hl2)
  by_cases hm : (256 : Int) ≤ xs.length
  all_goals
    have Hm3 := Lib.hid hm3
    have hme : (256 : Int) ≤ m ∨ (xs.length : Int) ≤ m := by omega
    first
      | (have hmx : (256 : Int) ≤ m := by omega)
      | (have hmx : (xs.length : Int) ≤ m := by omega)
    clear hme hm3
    have HT := Lib.hid hT
    go_enter Try.func19, Try.ntmps19
    go_wp2
    go_loop [3, 7] (fun g t => ∃ (k : Nat) (z : Int), k ≤ m ∧ t = .int .i64 (k + 1) ∧ g = .int .u8 z ∧ Hid (GoodAt xs q z k)) (fun _ t => (257 - intOf t).toNat)
    case atStart => exact ⟨0, _, by omega, rfl, rfl, by rw [← HT.out]; exact Hst⟩
    case round =>
      obtain ⟨k, z, hk, rfl, rfl, hgood⟩ := hrel
      by_cases hlt : k < m
      · have hck := hcell (xs.length - (k + 1)) (by omega)
        have hpk : 0 ≤ xs.getD (xs.length - (k + 1)) 0 ∧ xs.getD (xs.length - (k + 1)) 0 < 256 := hx _ (by simp [List.getD, show xs.length - (k + 1) < xs.length by omega])
        obtain ⟨hpk0, hpk1⟩ := hpk
        generalize hqq : xs.getD (xs.length - (k + 1)) 0 = r at *
        have Hqq := Lib.hid hqq
        obtain ⟨T2, hT2⟩ : ∃ T, IntKind.u64.wrap (q - ((k : Int) + 1)) = T := ⟨_, rfl⟩
        have HT2 := Lib.hid hT2
        clear hqq hcell
        go_wp2
        go_round
        case rel => exact ⟨k + 1, _, by omega, by go_num, rfl, by
          have := good_step xs q z k hp0 hp1 (by omega) hgood.out r (by rw [← Hqq.out]; congr 1; omega) hpk0 hpk1
          rw [HT2.out] at this
          exact this⟩
        case measure => simp [intOf]; omega
      · obtain rfl : k = m := by omega
        have hend := good_end xs q z k Hpp.out hp0 hp1 Hm3.out hgood.out
        have Hend := Lib.hid hend
        clear hend
        go_wp2
        go_ret2
        exact ⟨by rw [← Hend.out.1, ← Hend.out.2]; rfl, rfl⟩
end Go.Proofs.Ytpfidphjdpmhoaa
