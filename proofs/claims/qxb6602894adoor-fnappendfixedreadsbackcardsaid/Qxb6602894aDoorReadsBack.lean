import Derived.Test.Qxb6602894aDoorLaid
import Derived.Test.Qxb6602894aDoorLaw4
namespace Go.Proofs.Qxb6602894aDoor
open Go.ChangeShapes Go.WideShapes Go.ChangeAt Go.WideMaps Go.WideElems Go.RowKit

theorem law4 (a : Option Addr) (l : List UInt8) (cap : Nat) (neg : Bool) (U F P : Int) (w : World) (hv : Rd w.heap.size w (.slice a l.length cap) l) (hm : l.length ≤ maxLen)
    (hU : 0 ≤ U ∧ U ≤ 18446744073709551615) (hF : 0 ≤ F) (htab : Lib.TabIs Tryd.prog w powName .u64 Lib.pow10Tab) :
    Calls Tryd.prog 4 #[.slice a l.length cap, .bool neg, .int .u64 U, .int .u64 F, .int .i64 P] w fun e w' => e = .returned (.bool true) ∧ Below w.heap.size w w' := by
  unfold maxLen at hm
  by_cases h : 65536 < l.length ∨ P < 0 ∨ 8 < P ∨ ∃ p : Nat, P = (p : Int) ∧ p ≤ 8 ∧ ((10 ^ p : Nat) : Int) ≤ F
  · refine (law4_far a l.length cap neg U F P w (by omega) h).mono ?_
    rintro e w' ⟨rfl, rfl⟩
    exact ⟨rfl, Below.refl _ _⟩
  · have h1 : l.length ≤ 65536 := by false_or_by_contra; exact h (Or.inl (by omega))
    have h2 : 0 ≤ P := by false_or_by_contra; exact h (Or.inr (Or.inl (by omega)))
    have h3 : P ≤ 8 := by false_or_by_contra; exact h (Or.inr (Or.inr (Or.inl (by omega))))
    obtain ⟨p, rfl⟩ := Int.eq_ofNat_of_zero_le h2
    obtain ⟨f, rfl⟩ := Int.eq_ofNat_of_zero_le hF
    obtain ⟨u, rfl⟩ := Int.eq_ofNat_of_zero_le hU.1
    have h4 : f < 10 ^ p := by
      false_or_by_contra
      exact h (Or.inr (Or.inr (Or.inr ⟨p, rfl, by omega, by omega⟩)))
    exact law4_near _ l neg u f p w hv h1 (by omega) (by omega) h4 htab

set_option maxRecDepth 100000 in
theorem lifted4 (os : Os) (started : os.Started) (H : Type) (enc : TypeId × Value → H) :
    ReturnsInHanded {} Tryd.checked os 4 .any (fun w args => (Rows.fnAppendFixedReadsBackSpec.pre enc Tryd.prog Tryd.f4 [] false w args ∧ laidMetH Tryd.prog Rows.fnAppendFixedReadsBackRow.laid w) ∧ sizedMet enc Tryd.prog Tryd.f4 (OpenSpec.ofChange Rows.fnAppendFixedReadsBackSpec) false w args)
      (Rows.fnAppendFixedReadsBackSpec.post enc Tryd.prog Tryd.f4 false true false false) := by
  refine returnsInHanded_of_change_and (C := Tryd.checked) (X := fun w _ => laidMetH Tryd.prog Rows.fnAppendFixedReadsBackRow.laid w) (fun _ _ _ hh h => h.of_heap hh) own started (by kernel_rfl) Tryd.func4
    (ChangeSpec.witness_shaped (enc := enc) (C := Tryd.checked) (os := os) (X := fun w _ => laidMetH Tryd.prog Rows.fnAppendFixedReadsBackRow.laid w) false (World.doorLaid Tryd.prog 400 os) #[.slice none 0 0, .bool false, .int .u64 0, .int .u64 0, .int .i64 0] 8 rfl (World.shaped_of_RefB (by kernel_rfl) (by kernel_rfl)) (by kernel_rfl) (by kernel_rfl) (by kernel_rfl) (door_met os _)) ?_
  intro W base args ds gs before hval0 hW _ _ hL _
  have hval : ∀ (j : Nat) t v, Tryd.f4.params[j]? = some t → args[j]? = some v → Value.okWide Tryd.prog W .any base t v := hval0
  have hW' := hW
  obtain ⟨p, q, hA0, hV, rfl, hfz, hnd⟩ := hW
  have hA : DataW.TrodAll enc Tryd.prog W 0 (fun _ => true) true Tryd.f4.params.toList args.toList ds p := hA0
  rw [Tryd.params4] at hA hval
  obtain ⟨v0, v1, v2, v3, v4, d0, d1, d2, d3, d4, p0, p1, p2, p3, p4, rfl, rfl, rfl, h0, h1, h2, h3, h4⟩ := trodAll_five hA
  obtain ⟨rfl, rfl⟩ := trodVars_none hV
  obtain ⟨neg, rfl, rfl, rfl⟩ := open_bool Tryd.underlying4 (hval 1 4 v1 rfl rfl) h1
  obtain ⟨U, rfl, rfl, rfl, wU⟩ := open_int Tryd.underlying23 (hval 2 23 v2 rfl rfl) h2
  obtain ⟨F, rfl, rfl, rfl, wF⟩ := open_int Tryd.underlying23 (hval 3 23 v3 rfl rfl) h3
  obtain ⟨P, rfl, rfl, rfl, wP⟩ := open_int Tryd.underlying3 (hval 4 3 v4 rfl rfl) h4
  obtain ⟨a0, len, cap, rfl⟩ := okWide_slice Tryd.underlying22 (hval 0 22 v0 rfl rfl)
  have hpow := pow_of_laid hL
  clear hA0 hval0
  simp only [List.append_nil] at hW'
  have hlt : ∀ x ∈ p0, x.block < W.heap.size := fun x hx => by simpa using hW'.lt x hx
  obtain ⟨l, rfl, hm, hRd⟩ := rd_open h0
  refine (law4 a0 l cap neg U F P W hRd hm (bounds_u64 wU) (bounds_u64 wF).1 hpow).mono fun e W' ⟨he, hb⟩ => ?_
  subst he
  refine ⟨_, rfl, _, _, _, [], p0 ++ ([] ++ ([] ++ ([] ++ []))), [], hW', ?_, ?_, rfl, hb.frame _, fun h => by cases h⟩
  · exact trodAll_mk1 (shut_bool Tryd.underlying4 true)
  · exact trodAll_mk5 (Below.trod laidOut (by kernel_rfl) (of_decide_eq_true (by kernel_rfl)) h0 hb hlt) (shut_bool Tryd.underlying4 neg) (shut_int Tryd.underlying23 wU) (shut_int Tryd.underlying23 wF) (shut_int Tryd.underlying3 wP)

theorem holds4 : Rows.FnAppendFixedReadsBackSaid :=
  OpenClaim.holds_of_wide 4 Tryd.f4 rfl rfl rfl rfl rfl rfl rfl ⟨rfl, rfl, rfl, rfl, rfl⟩ rfl rfl rfl rfl rfl (by kernel_rfl) Tryd.func4 (by kernel_rfl)
    (of_decide_eq_true (by kernel_rfl)) (by unfold Func.isWrapper; rw [if_neg (of_decide_eq_false (by kernel_rfl))]; exact ⟨rfl, rfl⟩)
    (fun os started H enc _ => lifted4 os started H enc)

theorem card4 : Rows.FnAppendFixedReadsBackCardSaid :=
  Claim7.holds_tied_plain_at .later [] [.data, .data, .data] true _ false
    holds4 (fun _ h => by cases h) (by kernel_rfl) (fun _ h => by cases h) fnAppendFixedReadsBack_row_tie rfl ⟨rfl, rfl⟩ (by kernel_rfl) rfl
    (fun f fn hf hfn => by
      obtain rfl : f = 4 := Option.some.inj ((show Tryd.prog.funcNamed Rows.fnAppendFixedReadsBackRow.func = some 4 by kernel_rfl).symm.trans hf) |>.symm
      obtain rfl : fn = Tryd.f4 := (Option.some.inj (Tryd.func4.symm.trans hfn)).symm
      exact ⟨by kernel_rfl, fun j t ht => by
        rw [Tryd.params4] at ht
        have hm : t ∈ [22, 4, 23, 23, 3] := by simpa using Array.mem_of_getElem? ht
        have hall : ([22, 4, 23, 23, 3].all fun u => !Tryd.prog.wantsStandIn u) = true := by kernel_rfl
        exact (show Tryd.prog.wantsStandIn t = false by simpa using List.all_eq_true.1 hall t hm)⟩)
    (by kernel_rfl)
end Go.Proofs.Qxb6602894aDoor
