import Derived.Test.Qxb6601842aDoorBuf
import Derived.Test.Qxb6601842aDoorEsc
import Derived.WalkLawsBesides
import Derived.WalkSpells
namespace Go.Proofs.Qxb6601842aDoor
open Go.RowKit

theorem hideD {p : Prop} (h : p) : Hid p := h

/-- the buffer in block b holds l; below B nothing has turned since w0 -/
structure Bf (B b : Nat) (w0 : World) (l : List UInt8) (w : World) : Prop where
  buf : Lib.IsBuffer 46 5 B b (Lib.byteCells l) w
  below : Below B w0 w
  size : B ≤ w.heap.size

theorem put1 {B b : Nat} {w0 : World} {l : List UInt8} {w : World} (h : Bf B b w0 l w) (u : UInt8) (c : Int) (hc : (u.toNat : Int) = c) (hl : l.length + 1 ≤ 140737488355328) :
    Calls Tryd.prog 23 #[.pointer (some ⟨b, 0, none⟩), .int .u8 c] w fun e w' => e = .returned .nilIface ∧ Bf B b w0 (l ++ [u]) w' := by
  refine (wbyte B b _ c w h.buf h.size (Lib.byteCells_one _) (by rw [Lib.byteCells_length]; exact hl)).mono fun e w' ⟨he, h1, h2, _⟩ => ⟨he, ?_, h.below.trans h2, Nat.le_trans h.size h2.size⟩
  rw [Lib.byteCells_append]
  have : Lib.byteCells [u] = [.int .u8 c] := by simp [Lib.byteCells, hc]
  rw [this]; exact h1

theorem putS {B b : Nat} {w0 : World} {l : List UInt8} {w : World} (h : Bf B b w0 l w) (s : ByteArray) (m : List UInt8) (hm : s.data.toList = m) (hl : l.length + m.length ≤ 140737488355328) :
    Calls Tryd.prog 24 #[.pointer (some ⟨b, 0, none⟩), .string s] w fun e w' => e = .returned (.tuple #[.int .i64 m.length, .nilIface]) ∧ Bf B b w0 (l ++ m) w' := by
  subst hm
  have hsz : s.size = s.data.toList.length := by simp
  refine (wstr B b _ s w h.buf h.size (Lib.byteCells_one _) (by rw [Lib.byteCells_length, hsz]; exact hl)).mono fun e w' ⟨he, h1, h2, _⟩ => ⟨?_, ?_, h.below.trans h2, Nat.le_trans h.size h2.size⟩
  · rw [he, hsz]
  · rw [Lib.byteCells_append]; exact h1

theorem take_snoc (s : ByteArray) (k : Nat) (h : k < s.size) : s.data.toList.take (k + 1) = s.data.toList.take k ++ [s[k]] := by
  rw [List.take_succ_eq_append_getElem (by simpa using h)]; rfl

theorem u8_of {u : UInt8} {n : Nat} (hn : n < 256) (h : (u.toNat : Int) = (n : Int)) : u = UInt8.ofNat n := by
  apply UInt8.toNat_inj.1
  rw [UInt8.toNat_ofNat', Nat.mod_eq_of_lt (by simpa using hn)]
  omega

theorem hexA_lo (n : Nat) : n % 16 < (⟨#[48, 49, 50, 51, 52, 53, 54, 55, 56, 57, 97, 98, 99, 100, 101, 102]⟩ : ByteArray).size := by
  show n % 16 < 16; omega
theorem hexA_hi (n : Nat) (h : n < 32) : n / 16 < (⟨#[48, 49, 50, 51, 52, 53, 54, 55, 56, 57, 97, 98, 99, 100, 101, 102]⟩ : ByteArray).size := by
  show n / 16 < 16; omega

theorem esc1_hexF : ∀ n : Fin 32, ¬ (n.val = 8 ∨ n.val = 9 ∨ n.val = 10 ∨ n.val = 12 ∨ n.val = 13) → esc1 (UInt8.ofNat n.val) = [92, 117, 48, 48, (⟨#[48, 49, 50, 51, 52, 53, 54, 55, 56, 57, 97, 98, 99, 100, 101, 102]⟩ : ByteArray)[n.val / 16]'(hexA_hi _ n.isLt), (⟨#[48, 49, 50, 51, 52, 53, 54, 55, 56, 57, 97, 98, 99, 100, 101, 102]⟩ : ByteArray)[n.val % 16]'(hexA_lo _)] := by decide +kernel

theorem esc1_hex (n : Nat) (hn : n < 32) (h : ¬ (n = 8 ∨ n = 9 ∨ n = 10 ∨ n = 12 ∨ n = 13)) : esc1 (UInt8.ofNat n) = [92, 117, 48, 48, (⟨#[48, 49, 50, 51, 52, 53, 54, 55, 56, 57, 97, 98, 99, 100, 101, 102]⟩ : ByteArray)[n / 16]'(hexA_hi _ hn), (⟨#[48, 49, 50, 51, 52, 53, 54, 55, 56, 57, 97, 98, 99, 100, 101, 102]⟩ : ByteArray)[n % 16]'(hexA_lo _)] :=
  esc1_hexF ⟨n, hn⟩ h

theorem esc1_plainF : ∀ n : Fin 256, ¬ n.val < 32 → ¬ n.val = 34 → ¬ n.val = 92 → esc1 (UInt8.ofNat n.val) = [UInt8.ofNat n.val] := by decide +kernel
theorem esc1_plain (n : Nat) (hn : n < 256) (h : ¬ n < 32) (h1 : ¬ n = 34) (h2 : ¬ n = 92) : esc1 (UInt8.ofNat n) = [UInt8.ofNat n] := esc1_plainF ⟨n, hn⟩ h h1 h2

set_option maxHeartbeats 2000000 in
theorem ws_any (B b : Nat) (l : List UInt8) (s : ByteArray) (w0 w : World) (h : Bf B b w0 l w) (hlim : l.length + 6 * s.size + 2 ≤ 140737488355328) :
    Calls Tryd.prog 17 #[.pointer (some ⟨b, 0, none⟩), .string s] w fun e w' => e = .returned (.tuple #[]) ∧ Bf B b w0 (l ++ quo s.data.toList) w' := by
  have H := hideD h
  clear h
  go_enter Tryd.func17, Tryd.ntmps17
  go_wp2_with (go_at_call 23; refine (put1 H.out 34 34 rfl (by omega)).mono ?_; rintro e w1 ⟨rfl, h1⟩; refine Hid.out ?_)
  refine hideD ?_
  go_wp2
  go_loopw [4] (fun i wr => ∃ k : Nat, k ≤ s.size ∧ i = .int .i64 k ∧ Bf B b w0 (l ++ [34] ++ esc (s.data.toList.take k)) wr) (fun i _ => s.size - (intOf i).toNat)
  case atStart => exact ⟨0, Nat.zero_le _, rfl, by simpa [esc] using h1⟩
  case round =>
    obtain ⟨k, hk, rfl, hbf⟩ := hrel
    have HB := hideD hbf
    clear hbf h1
    by_cases hlt : k < s.size
    · have STEP : Hid (∀ wx, Bf B b w0 (l ++ [34] ++ esc (s.data.toList.take k) ++ esc1 s[k]) wx → Bf B b w0 (l ++ [34] ++ esc (s.data.toList.take (k + 1))) wx) := by
        intro wx hx
        rw [take_snoc s k hlt, esc_snoc, ← List.append_assoc]
        exact hx
      have hlen : (l ++ [34] ++ esc (s.data.toList.take k)).length ≤ l.length + 1 + 6 * k := by
        have := esc_len (s.data.toList.take k)
        have h2 : (s.data.toList.take k).length ≤ k := List.length_take_le _ _
        simp only [List.length_append, List.length_cons, List.length_nil]
        omega
      generalize l ++ [34] ++ esc (s.data.toList.take k) = L at HB STEP hlen
      obtain ⟨n, hn⟩ : ∃ n : Nat, s[k].toNat = n := ⟨_, rfl⟩
      have hc : (s[k].toNat : Int) = (n : Int) := by rw [hn]
      have hn256 : n < 256 := by have := s[k].toNat_lt; omega
      have U : Hid (s[k] = UInt8.ofNat n) := u8_of hn256 hc
      clear hn
      by_cases hsmall : n < 32
      · by_cases hsp : n = 8 ∨ n = 9 ∨ n = 10 ∨ n = 12 ∨ n = 13
        · rcases hsp with rfl | rfl | rfl | rfl | rfl
          · have hc : (s[k].toNat : Int) = 8 := hc
            go_wp2_with fail
            refine (putS HB.out ⟨#[92, 98]⟩ [92, 98] rfl (by simp; omega)).mono ?_
            rintro e w2 ⟨rfl, h2⟩
            have H2 := hideD h2
            clear h2
            go_wp2
            go_roundw
            case rel => exact ⟨k + 1, by omega, by go_num, STEP.out _ (by rw [U.out]; exact H2.out)⟩
            case measure => simp [intOf]; omega
          · have hc : (s[k].toNat : Int) = 9 := hc
            go_wp2_with fail
            refine (putS HB.out ⟨#[92, 116]⟩ [92, 116] rfl (by simp; omega)).mono ?_
            rintro e w2 ⟨rfl, h2⟩
            have H2 := hideD h2
            clear h2
            go_wp2
            go_roundw
            case rel => exact ⟨k + 1, by omega, by go_num, STEP.out _ (by rw [U.out]; exact H2.out)⟩
            case measure => simp [intOf]; omega
          · have hc : (s[k].toNat : Int) = 10 := hc
            go_wp2_with fail
            refine (putS HB.out ⟨#[92, 110]⟩ [92, 110] rfl (by simp; omega)).mono ?_
            rintro e w2 ⟨rfl, h2⟩
            have H2 := hideD h2
            clear h2
            go_wp2
            go_roundw
            case rel => exact ⟨k + 1, by omega, by go_num, STEP.out _ (by rw [U.out]; exact H2.out)⟩
            case measure => simp [intOf]; omega
          · have hc : (s[k].toNat : Int) = 12 := hc
            go_wp2_with fail
            refine (putS HB.out ⟨#[92, 102]⟩ [92, 102] rfl (by simp; omega)).mono ?_
            rintro e w2 ⟨rfl, h2⟩
            have H2 := hideD h2
            clear h2
            go_wp2
            go_roundw
            case rel => exact ⟨k + 1, by omega, by go_num, STEP.out _ (by rw [U.out]; exact H2.out)⟩
            case measure => simp [intOf]; omega
          · have hc : (s[k].toNat : Int) = 13 := hc
            go_wp2_with fail
            refine (putS HB.out ⟨#[92, 114]⟩ [92, 114] rfl (by simp; omega)).mono ?_
            rintro e w2 ⟨rfl, h2⟩
            have H2 := hideD h2
            clear h2
            go_wp2
            go_roundw
            case rel => exact ⟨k + 1, by omega, by go_num, STEP.out _ (by rw [U.out]; exact H2.out)⟩
            case measure => simp [intOf]; omega
        · have b1 : ((n : Int) == 10) = false := by rw [beq_eq_false_iff_ne]; omega
          have b2 : ((n : Int) == 13) = false := by rw [beq_eq_false_iff_ne]; omega
          have b3 : ((n : Int) == 9) = false := by rw [beq_eq_false_iff_ne]; omega
          have b4 : ((n : Int) == 8) = false := by rw [beq_eq_false_iff_ne]; omega
          have b5 : ((n : Int) == 12) = false := by rw [beq_eq_false_iff_ne]; omega
          have b6 : ((n : Int) == 34) = false := by rw [beq_eq_false_iff_ne]; omega
          have b7 : ((n : Int) == 92) = false := by rw [beq_eq_false_iff_ne]; omega
          have HX := hideD (esc1_hex n hsmall hsp)
          clear hsp
          go_wp2_with fail
          refine (putS HB.out ⟨#[92, 117, 48, 48]⟩ [92, 117, 48, 48] rfl (by simp; omega)).mono ?_
          rintro e w2 ⟨rfl, h2⟩
          have H2 := hideD h2
          clear h2
          go_wp2_with fail
          refine (put1 H2.out _ _ rfl (by simp; omega)).mono ?_
          rintro e w3 ⟨rfl, h3⟩
          have H3 := hideD h3
          clear h3
          go_wp2_with fail
          refine (put1 H3.out _ _ rfl (by simp; omega)).mono ?_
          rintro e w4 ⟨rfl, h4⟩
          have H4 := hideD h4
          clear h4
          go_wp2
          go_roundw
          case rel => exact ⟨k + 1, by omega, by go_num, STEP.out _ (by rw [U.out, HX.out]; have := H4.out; simpa using this)⟩
          case measure => simp [intOf]; omega
      · by_cases q34 : n = 34
        · subst q34
          have hc : (s[k].toNat : Int) = 34 := hc
          go_wp2_with fail
          refine (put1 HB.out 92 92 rfl (by omega)).mono ?_
          rintro e w2 ⟨rfl, h2⟩
          have H2 := hideD h2
          clear h2
          go_wp2_with fail
          refine (put1 H2.out 34 34 rfl (by simp; omega)).mono ?_
          rintro e w3 ⟨rfl, h3⟩
          have H3 := hideD h3
          clear h3
          go_wp2
          go_roundw
          case rel => exact ⟨k + 1, by omega, by go_num, STEP.out _ (by rw [U.out]; have := H3.out; rw [List.append_assoc] at this; exact this)⟩
          case measure => simp [intOf]; omega
        · by_cases q92 : n = 92
          · subst q92
            have hc : (s[k].toNat : Int) = 92 := hc
            go_wp2_with fail
            refine (put1 HB.out 92 92 rfl (by omega)).mono ?_
            rintro e w2 ⟨rfl, h2⟩
            have H2 := hideD h2
            clear h2
            go_wp2_with fail
            refine (put1 H2.out 92 92 rfl (by simp; omega)).mono ?_
            rintro e w3 ⟨rfl, h3⟩
            have H3 := hideD h3
            clear h3
            go_wp2
            go_roundw
            case rel => exact ⟨k + 1, by omega, by go_num, STEP.out _ (by rw [U.out]; have := H3.out; rw [List.append_assoc] at this; exact this)⟩
            case measure => simp [intOf]; omega
          · have b1 : ((n : Int) == 10) = false := by rw [beq_eq_false_iff_ne]; omega
            have b2 : ((n : Int) == 13) = false := by rw [beq_eq_false_iff_ne]; omega
            have b3 : ((n : Int) == 9) = false := by rw [beq_eq_false_iff_ne]; omega
            have b4 : ((n : Int) == 8) = false := by rw [beq_eq_false_iff_ne]; omega
            have b5 : ((n : Int) == 12) = false := by rw [beq_eq_false_iff_ne]; omega
            have b6 : ((n : Int) == 34) = false := by rw [beq_eq_false_iff_ne]; omega
            have b7 : ((n : Int) == 92) = false := by rw [beq_eq_false_iff_ne]; omega
            have HX := hideD (esc1_plain n hn256 hsmall q34 q92)
            have HT : Hid ((UInt8.ofNat n).toNat = n) := by show _ = _; rw [UInt8.toNat_ofNat', Nat.mod_eq_of_lt (by simpa using hn256)]
            go_wp2_with fail
            refine (put1 HB.out (UInt8.ofNat n) _ (by rw [HT.out]) (by omega)).mono ?_
            rintro e w2 ⟨rfl, h2⟩
            have H2 := hideD h2
            clear h2
            go_wp2
            go_roundw
            case rel => exact ⟨k + 1, by omega, by go_num, STEP.out _ (by rw [U.out, HX.out]; exact H2.out)⟩
            case measure => simp [intOf]; omega
    · have e : s.data.toList.take k = s.data.toList := List.take_of_length_le (by simp; omega)
      have hlen : (l ++ [34] ++ esc (s.data.toList.take k)).length ≤ l.length + 1 + 6 * k := by
        have := esc_len (s.data.toList.take k)
        have h2 : (s.data.toList.take k).length ≤ k := List.length_take_le _ _
        simp only [List.length_append, List.length_cons, List.length_nil]
        omega
      rw [e] at HB hlen
      clear e
      go_wp2_with fail
      refine (put1 HB.out 34 34 rfl (by omega)).mono ?_
      rintro e w2 ⟨rfl, h2⟩
      have H2 := hideD h2
      clear h2
      go_wp2
      go_end0
      exact ⟨rfl, by have := H2.out; simpa [quo] using this⟩
end Go.Proofs.Qxb6601842aDoor
