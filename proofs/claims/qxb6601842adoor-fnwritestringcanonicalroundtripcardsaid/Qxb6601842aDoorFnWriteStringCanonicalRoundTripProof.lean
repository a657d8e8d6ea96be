import Derived.Test.Qxb6601842aDoorRows
import Derived.Test.Qxb6601842aDoorTie
import Derived.Test.Qxb6601842aDoorCards
import Derived.Test.Qxb6601842aDoorLaid
import Derived.Test.Qxb6601842aDoorRt
import Derived.ProofKit
import Derived.OpenShut
import Derived.ShutString
import Derived.ChangeSame
import Derived.ChangeVars
import Derived.ChangeOld
import Derived.RowKit
import Derived.RowKitTokens
import Derived.SevenTiedAt
namespace Go.Proofs.Qxb6601842aDoor.fnWriteStringCanonicalRoundTrip
open Go.ChangeShapes Go.WideShapes Go.ChangeAt Go.RowKit
open Go.ChangeMaps (open_string shut_string)

theorem laidOut : laidOutB Tryd.prog = true := by kernel_rfl

theorem u8_bd {n : Int} (h : (Lit.int .u8 n).wf = true) : 0 ≤ n ∧ n ≤ 255 := by
  have e1 : IntKind.u8.min = 0 := by decide
  have e2 : IntKind.u8.max = 255 := by decide
  have h : (decide (IntKind.u8.min ≤ n) && decide (n ≤ IntKind.u8.max)) = true := h
  rw [e1, e2] at h
  simpa using h

theorem lt_of_cell {w : World} {x : Addr} {v : Value} (h : w.cell? x = some v) : x.block < w.heap.size := by
  rcases Nat.lt_or_ge x.block w.heap.size with h' | h'
  · exact h'
  · simp [World.cell?, Array.getElem?_eq_none h'] at h

/-- a slice of bytes that came in, as the walk takes it: its bytes, and that zzCloneBytes copies them -/
theorem cloned (W : World) (x : Addr) (len cap : Nat) (zs : List Int) (hl : len ≤ cap) (hz : zs.length = cap) (hcell : ∀ i, i < zs.length → W.cell? (x.add i) = some (.int .u8 (zs.getD i 0))) (hwz : ∀ n ∈ zs, (Lit.int .u8 n).wf = true) :
    ∃ bs : List UInt8, bs.length = len ∧ (len ≤ 1048576 → ∀ wx, Below W.heap.size W wx → Calls Tryd.prog 7 #[.slice (some x) len cap] wx fun e w' => ∃ v, e = .returned v ∧ w'.ownsRow wx.heap.size 5 1 v len (Lib.byteCells bs) ∧ Below wx.heap.size wx w') := by
  refine ⟨(zs.take len).map fun z => UInt8.ofNat z.toNat, by simp; omega, fun hn wx hb => ?_⟩
  have hblk : ∀ j, (x.add j).block = x.block := fun j => by unfold Addr.add; split <;> rfl
  have key : ∀ j, j < len → W.cell? (x.add j) = some (.int .u8 ((UInt8.ofNat (zs.getD j 0).toNat).toNat : Int)) := fun j hj => by
    have hj' : j < zs.length := by omega
    rw [hcell j hj']
    have hm : zs.getD j 0 ∈ zs := by rw [List.getD, List.getElem?_eq_getElem hj']; exact List.getElem_mem hj'
    obtain ⟨b1, b2⟩ := u8_bd (hwz _ hm)
    rw [UInt8.toNat_ofNat', Nat.mod_eq_of_lt (by omega)]
    congr 2
    omega
  have hlen : ((zs.take len).map fun z => UInt8.ofNat z.toNat).length = len := by simp; omega
  refine (clone_row x len cap ((zs.take len).map fun z => UInt8.ofNat z.toNat) hlen hn wx (fun j v hj => ?_) (fun hp => ?_)).mono ?_
  · have hj' : j < len := by
      have := (List.getElem?_eq_some_iff.1 hj).1
      simp only [Lib.byteCells, List.length_map, List.length_take] at this
      omega
    have hk := key j hj'
    rw [hb.cell (p := x.add j) (lt_of_cell hk), hk, ← hj]
    have hj2 : j < zs.length := by omega
    simp only [Lib.byteCells, List.getElem?_map, List.getElem?_take_of_lt hj', List.getElem?_eq_getElem hj2, Option.map_some, List.getD, Option.getD_some]
  · have hk := lt_of_cell (key 0 hp)
    rw [hblk 0] at hk
    exact Nat.lt_of_lt_of_le hk hb.size
  · rintro e w' ⟨g, c', he, ho, hb'⟩
    exact ⟨_, he, ho, hb'⟩

theorem cloned_nil (W : World) : ∀ wx, Below W.heap.size W wx → Calls Tryd.prog 7 #[.slice none 0 0] wx fun e w' => ∃ v, e = .returned v ∧ w'.ownsRow wx.heap.size 5 1 v 0 (Lib.byteCells []) ∧ Below wx.heap.size wx w' := by
  intro wx _
  refine (clone_nil wx).mono ?_
  rintro e w' ⟨he, hw⟩
  subst hw
  exact ⟨_, he, World.ownsRow_nil _ _ _ _, Below.refl _ _⟩

set_option maxRecDepth 100000 in
theorem lifted (os : Os) (started : os.Started) (H : Type) (enc : TypeId × Value → H) :
    ReturnsInHanded {} Tryd.checked os 3 .any (fun w args => (Rows.fnWriteStringCanonicalRoundTripSpec.pre enc Tryd.prog Tryd.f3 [] false w args ∧ laidMetH Tryd.prog [("bytes.ErrTooLarge", Rows.laid_bytes_ErrTooLarge)] w) ∧ sizedMet enc Tryd.prog Tryd.f3 (OpenSpec.ofChange Rows.fnWriteStringCanonicalRoundTripSpec) false w args)
      (Rows.fnWriteStringCanonicalRoundTripSpec.post enc Tryd.prog Tryd.f3 false true false false) := by
  refine returnsInHanded_of_change_and (C := Tryd.checked) (X := fun w _ => laidMetH Tryd.prog [("bytes.ErrTooLarge", Rows.laid_bytes_ErrTooLarge)] w) (fun _ _ _ hh h => h.of_heap hh) ownD started (by kernel_rfl) Tryd.func3
    (ChangeSpec.witness_shaped (enc := enc) (C := Tryd.checked) (os := os) (X := fun w _ => laidMetH Tryd.prog [("bytes.ErrTooLarge", Rows.laid_bytes_ErrTooLarge)] w) false (World.laidAll Tryd.prog os [("bytes.ErrTooLarge", Rows.laid_bytes_ErrTooLarge)]) #[.slice none 0 0, .string ByteArray.empty] 8 (World.laidAll_os _ _ _) (wit_shaped os _) (by as_aux_lemma => kernel_rfl) (by as_aux_lemma => kernel_rfl) (by as_aux_lemma => kernel_rfl) (wit_met os _)) ?_
  intro W base args ds gs before hval0 hW _ _ _ _
  have hval : ∀ (j : Nat) t v, Tryd.f3.params[j]? = some t → args[j]? = some v → Value.okWide Tryd.prog W .any base t v := hval0
  have hW' := hW
  obtain ⟨p, q, hA0, hV, rfl, hfz, hnd⟩ := hW
  have hA : DataW.TrodAll enc Tryd.prog W 0 (fun _ => true) true Tryd.f3.params.toList args.toList ds p := hA0
  rw [Tryd.params3] at hA hval
  obtain ⟨v0, vs0, d0, ds0, p0, q0, hargs, rfl, rfl, h0, r0⟩ := trodAll_cons hA
  obtain ⟨v1, vs1, d1, ds1, p1, q1, rfl, rfl, rfl, h1, r1⟩ := trodAll_cons r0
  obtain ⟨rfl, rfl, rfl⟩ := trodAll_nil r1
  obtain rfl : args = #[v0, v1] := by cases args; simp_all
  obtain ⟨rfl, rfl⟩ := trodVars_none hV
  obtain ⟨a0, len0, cap0, rfl⟩ := okWide_slice Tryd.underlying22 (hval 0 22 v0 rfl rfl)
  have k0 := h0
  have lt0 : ∀ x ∈ p0, x.block < W.heap.size := by obtain ⟨m, hm⟩ := k0; exact DataW.trod_lt m _ _ _ hm
  obtain ⟨bs, hbs, hlm, hcl⟩ : ∃ bs : List UInt8, bs.length = len0 ∧ len0 ≤ maxLen ∧ (len0 ≤ 1048576 → ∀ wx, Below W.heap.size W wx → Calls Tryd.prog 7 #[.slice a0 len0 cap0] wx fun e w' => ∃ v, e = .returned v ∧ w'.ownsRow wx.heap.size 5 1 v len0 (Lib.byteCells bs) ∧ Below wx.heap.size wx w') := by
    obtain ⟨fuel, hf⟩ := h0
    rcases open_ints Tryd.underlying22 Tryd.underlying5 (by kernel_rfl) hf with ⟨hcs, _⟩ | ⟨x, l, c, zs, hcs, _, hl, hm, hz, _, hcell, hwz⟩
    · simp [Value.cells] at hcs
      obtain ⟨rfl, rfl, rfl⟩ := hcs
      exact ⟨[], rfl, Nat.zero_le _, fun _ => cloned_nil W⟩
    · simp [Value.cells] at hcs
      obtain ⟨rfl, rfl, rfl⟩ := hcs
      obtain ⟨bs, hb1, hb2⟩ := cloned W x len0 cap0 zs hl (by simpa using hz) hcell hwz
      exact ⟨bs, hb1, Nat.le_trans hl hm, hb2⟩
  obtain ⟨a1, rfl, rfl, rfl, w1⟩ := open_string Tryd.underlying9 (hval 1 9 v1 rfl rfl) h1
  clear hA0 hval0
  refine (rt_any a0 len0 cap0 bs hbs hlm a1 w1 W hcl).mono fun e W' ⟨he, bel⟩ => ?_
  subst he
  exact ⟨_, rfl, _, _, _, [], _, [], hW', trodAll_mk1 (shut_bool Tryd.underlying4 _), trodAll_cons_mk (Below.trod laidOut (by kernel_rfl) (of_decide_eq_true (by kernel_rfl)) k0 bel lt0) (trodAll_cons_mk (shut_string Tryd.underlying9 w1) trodAll_mk0), rfl, bel.frame _, fun h => by cases h⟩

theorem over : Rows.fnWriteStringCanonicalRoundTripRow.holds Tryd.pinned (OpenSpec.ofChange Rows.fnWriteStringCanonicalRoundTripSpec) :=
  OpenClaim.holds_of_wide 3 Tryd.f3 rfl rfl rfl rfl rfl rfl rfl ⟨rfl, rfl, rfl, rfl, rfl⟩ rfl rfl rfl rfl rfl (by kernel_rfl) Tryd.func3 (by kernel_rfl)
    (of_decide_eq_true (by kernel_rfl)) (by unfold Func.isWrapper; first | (rw [if_pos (by decide +kernel)]; kernel_rfl) | (rw [if_neg (by decide +kernel)]; exact ⟨rfl, rfl⟩))
    (fun os started H enc _ => lifted os started H enc)

/-- THE STATEMENT: the tied card -/
theorem proved : Rows.FnWriteStringCanonicalRoundTripCardSaid :=
  Claim7.holds_tied_plain_at .later [] [.sentinel] true (true, "717085869105bdfd47973b10035083065984ddb01d89ced759e0dbaec6d1159d") false
    over (fun _ h => by cases h) (by kernel_rfl) (fun _ h => by cases h) fnWriteStringCanonicalRoundTrip_row_tie rfl ⟨rfl, rfl⟩ (by kernel_rfl) rfl
    (fun f fn hf hfn => by
      obtain rfl : f = 3 := Option.some.inj ((show Tryd.prog.funcNamed Rows.fnWriteStringCanonicalRoundTripRow.func = some 3 by kernel_rfl).symm.trans hf) |>.symm
      obtain rfl : fn = Tryd.f3 := (Option.some.inj (Tryd.func3.symm.trans hfn)).symm
      exact ⟨by kernel_rfl, fun j t ht => by
        rw [Tryd.params3] at ht
        have h9 : t = 22 ∨ t = 9 := by
          rcases j with _ | _ | j
          · exact Or.inl (by simpa using ht.symm)
          · exact Or.inr (by simpa using ht.symm)
          · simp at ht
        rcases h9 with rfl | rfl
        · exact (show Tryd.prog.wantsStandIn 22 = false by kernel_rfl)
        · exact (show Tryd.prog.wantsStandIn 9 = false by kernel_rfl)⟩)
    (by kernel_rfl)
end Go.Proofs.Qxb6601842aDoor.fnWriteStringCanonicalRoundTrip
