import Derived.Test.Qxb6604517aDoorRead16
import Derived.Test.Qxb6604517aDoorNotation
namespace Go.Proofs.Qxb6604517aDoor
open Go.RowKit

theorem pv6_both (w : World) (b o cap len D nl nr M : Nat) (T : List UInt8) (fl fr F : Nat → Int) (hT : len = T.length) (hA : At w b o T) (hbl : b < w.heap.size) (hlen : len ≤ 1000) (hcap : len ≤ cap) (hD : D + 2 ≤ len) (hno : ∀ i : Nat, i < D → ¬ (T[i]? = some 58 ∧ T[i + 1]? = some 58)) (hc0 : T[D]? = some 58) (hc1 : T[D + 1]? = some 58) (hM : M + nr = 8) (hnl : nl + nr ≤ 7)
    (hF : ∀ k, k < 8 → F k = if k < nl then fl k else if M ≤ k then fr (k - M) else 0) (hFr : ∀ k, 0 ≤ F k ∧ F k < 65536)
    (hL : ∀ W, Below w.heap.size w W → Calls Tryd.prog 24 #[.slice (some ⟨b, o, none⟩) D cap, .bool false] W fun e w' => e = .returned (.tuple #[aggW fl, .int .i64 (nl : Int), .bool true]) ∧ Below W.heap.size W w')
    (hR : ∀ W a c, Below w.heap.size w W → (0 < len - (D + 2) → a = some ⟨b, o + (D + 2), none⟩ ∧ len - (D + 2) ≤ c) → Calls Tryd.prog 24 #[.slice a (len - (D + 2)) c, .bool true] W fun e w' => e = .returned (.tuple #[aggW fr, .int .i64 (nr : Int), .bool true]) ∧ Below W.heap.size W w') :
    Calls Tryd.prog 13 #[.slice (some ⟨b, o, none⟩) len cap] w fun e w' => e = .returned (.tuple #[agg16 (wb F), .bool true]) ∧ Below w.heap.size w w' := by
  by_cases h : cap = D + 2
  · obtain rfl : len = D + 2 := by omega
    subst h
    rw [Nat.sub_self] at hR
    exact pv6_end w b o D nl nr M T fl fr F hT hA hbl hlen hno hc0 hc1 hM hnl hF hFr hL (fun W a c hb => hR W a c hb (fun h => absurd h (by omega)))
  · exact pv6_two w b o cap len D nl nr M T fl fr F hT hA hbl hlen hcap h hD hno hc0 hc1 hM hnl hF hFr hL hR

theorem jn_len (g : Nat → Nat) (a : Nat) : ∀ K, (jn g a K).length ≤ 5 * K
  | 0 => by simp [jn]
  | K + 1 => by
    have h := jn_len g a K
    have h2 := (hex16_len (g (a + K))).2
    rw [jn, List.length_append, List.length_append]
    by_cases h0 : K = 0
    · rw [if_pos h0]; simp; omega
    · rw [if_neg h0]; simp; omega

theorem aggW_congr {f f' : Nat → Int} (h : ∀ i, i < 8 → f i = f' i) : aggW f = aggW f' := by
  unfold aggW
  rw [h 0 (by omega), h 1 (by omega), h 2 (by omega), h 3 (by omega), h 4 (by omega), h 5 (by omega), h 6 (by omega), h 7 (by omega)]
theorem agg16_congr {f f' : Nat → Int} (h : ∀ i, i < 16 → f i = f' i) : agg16 f = agg16 f' := by
  unfold agg16
  rw [h 0 (by omega), h 1 (by omega), h 2 (by omega), h 3 (by omega), h 4 (by omega), h 5 (by omega), h 6 (by omega), h 7 (by omega), h 8 (by omega), h 9 (by omega), h 10 (by omega), h 11 (by omega), h 12 (by omega), h 13 (by omega), h 14 (by omega), h 15 (by omega)]

theorem jn_pos (g : Nat → Nat) (a K : Nat) (hK : 1 ≤ K) : 0 < (jn g a K).length := by
  obtain ⟨K, rfl⟩ : ∃ j, K = j + 1 := ⟨K - 1, by omega⟩
  have := (hex16_len (g (a + K))).1
  rw [jn, List.length_append]; omega

theorem left_words (W : World) (b o cap : Nat) (g : Nat → Nat) (hg : ∀ k, g k < 65536) (z : Nat) (hz : z ≤ 8) (hA : At W b o (jn g 0 z)) (hbl : b < W.heap.size) (hcap : (jn g 0 z).length ≤ cap) :
    Calls Tryd.prog 24 #[.slice (some ⟨b, o, none⟩) (jn g 0 z).length cap, .bool false] W fun e w' => e = .returned (.tuple #[aggW (fun k => if k < z then ((g k : Nat) : Int) else 0), .int .i64 (z : Int), .bool true]) ∧ Below W.heap.size W w' := by
  rcases Nat.eq_zero_or_pos z with rfl | hp
  · exact pwords_none W _ _ _
  · have hl := jn_len g 0 z
    have hit := jn_items W b o 0 z g hg hp hA
    simp only [Nat.zero_add] at hit
    exact pwords_false W b o cap _ z hp hz g _ hg hit hbl (by omega) hcap

theorem right_words (W : World) (a : Option Addr) (c b o : Nat) (g : Nat → Nat) (hg : ∀ k, g k < 65536) (z K : Nat) (hK : K ≤ 8) (hA : At W b o (jn g z K)) (hbl : b < W.heap.size) (hcap : 0 < (jn g z K).length → a = some ⟨b, o, none⟩ ∧ (jn g z K).length ≤ c) :
    Calls Tryd.prog 24 #[.slice a (jn g z K).length c, .bool true] W fun e w' => e = .returned (.tuple #[aggW (fun k => if k < K then ((g (z + k) : Nat) : Int) else 0), .int .i64 (K : Int), .bool true]) ∧ Below W.heap.size W w' := by
  rcases Nat.eq_zero_or_pos K with rfl | hp
  · exact pwords_none W _ _ _
  · have hl := jn_len g z K
    obtain ⟨rfl, hc⟩ := hcap (jn_pos g z K hp)
    exact pwords_true W b o c _ K hp hK (fun k => g (z + k)) _ (fun k => hg _) (jn_items W b o z K g hg hp hA) hbl (by omega) hc

theorem six_bytes (t : List UInt8) : agg16 (wb fun k => ((gq t k : Nat) : Int)) = agg16 (fun i => ((t.getD i 0).toNat : Int)) := by
  refine agg16_congr fun i _ => ?_
  unfold wb gq
  have h1 := (t.getD (2 * (i / 2)) 0).toNat_lt
  have h2 := (t.getD (2 * (i / 2) + 1) 0).toNat_lt
  by_cases h : i % 2 = 0
  · rw [if_pos h]
    show (((t.getD (2 * (i / 2)) 0).toNat * 256 + (t.getD (2 * (i / 2) + 1) 0).toNat : Nat) : Int) / 256 = _
    rw [show 2 * (i / 2) = i by omega] at *
    omega
  · rw [if_neg h]
    show (((t.getD (2 * (i / 2)) 0).toNat * 256 + (t.getD (2 * (i / 2) + 1) 0).toNat : Nat) : Int) % 256 = _
    rw [show 2 * (i / 2) + 1 = i by omega] at *
    omega
theorem gq_bound (t : List UInt8) (k : Nat) : (0 : Int) ≤ ((gq t k : Nat) : Int) ∧ ((gq t k : Nat) : Int) < 65536 := by
  have := gq_lt t k
  omega

theorem pv6_six (w : World) (b o cap : Nat) (t : List UInt8) (zs ze : Nat) (hz : zs = (nst (fun k => gq t k == 0) 8).1 ∧ ze = (nst (fun k => gq t k == 0) 8).2) (hA : At w b o (text6 (gq t) zs ze)) (hbl : b < w.heap.size) (hcap : (text6 (gq t) zs ze).length ≤ cap) :
    Calls Tryd.prog 13 #[.slice (some ⟨b, o, none⟩) (text6 (gq t) zs ze).length cap] w fun e w' => e = .returned (.tuple #[agg16 (fun i => ((t.getD i 0).toNat : Int)), .bool true]) ∧ Below w.heap.size w w' := by
  rw [← six_bytes]
  have hg := gq_lt t
  unfold text6 at *
  by_cases h8 : 8 ≤ zs
  · rw [if_pos h8, body_jn] at *
    have hl := jn_len (gq t) 0 8
    refine pv6_one w b o cap _ (jn (gq t) 0 8) _ rfl hA hbl (by omega) (jn_nocc _ hg _ _) (gq_bound t) fun W hb => ?_
    have hr := right_words W (some ⟨b, o, none⟩) cap b o (gq t) hg 0 8 (by omega) (hA.on hb hbl) (Nat.lt_of_lt_of_le hbl hb.size) (fun _ => ⟨rfl, hcap⟩)
    rw [aggW_congr (f' := fun k => ((gq t k : Nat) : Int)) (fun i hi => by show (if i < 8 then _ else _) = _; rw [if_pos hi, Nat.zero_add])] at hr
    exact hr
  · obtain ⟨h1, h2, h3⟩ := run_zero (fun k => gq t k == 0) (by rw [← hz.1]; exact h8)
    rw [← hz.1, ← hz.2] at h1 h3
    rw [← hz.2] at h2
    rw [if_neg h8, body_jn, tail6_jn _ _ h2] at *
    have hl1 := jn_len (gq t) 0 zs
    have hl2 := jn_len (gq t) ze (8 - ze)
    have hlen : (jn (gq t) 0 zs ++ [58, 58] ++ jn (gq t) ze (8 - ze)).length = (jn (gq t) 0 zs).length + 2 + (jn (gq t) ze (8 - ze)).length := by simp; omega
    have hm : (jn (gq t) 0 zs ++ [58, 58] ++ jn (gq t) ze (8 - ze)).length - ((jn (gq t) 0 zs).length + 2) = (jn (gq t) ze (8 - ze)).length := by omega
    refine pv6_both w b o cap _ (jn (gq t) 0 zs).length zs (8 - ze) ze _ (fun k => if k < zs then ((gq t k : Nat) : Int) else 0) (fun k => if k < 8 - ze then ((gq t (ze + k) : Nat) : Int) else 0) _ rfl hA hbl (by omega) hcap (by omega) (fun i hi => ?_) ?_ ?_ (by omega) (by omega) (fun k hk => ?_) (gq_bound t) (fun W hb => ?_) (fun W a c hb hac => ?_)
    · rw [List.append_assoc]
      exact jn_first _ hg _ _ _ i hi
    · simp
    · simp
    · show ((gq t k : Nat) : Int) = _
      by_cases hk1 : k < zs
      · rw [if_pos hk1, if_pos hk1]
      · rw [if_neg hk1]
        by_cases hk2 : ze ≤ k
        · rw [if_pos hk2, if_pos (by omega), show ze + (k - ze) = k by omega]
        · rw [if_neg hk2]
          have := h3 k (by omega) (by omega)
          have h0 : gq t k = 0 := by simpa using this
          rw [h0]; rfl
    · exact left_words W b o cap (gq t) hg zs (by omega) ((hA.left.left).on hb hbl) (Nat.lt_of_lt_of_le hbl hb.size) (by omega)
    · rw [hm] at hac ⊢
      have hr := hA.right
      rw [List.length_append] at hr
      exact right_words W a c b _ (gq t) hg ze (8 - ze) (by omega) (hr.on hb hbl) (Nat.lt_of_lt_of_le hbl hb.size) hac

theorem pv6_map (w : World) (b o cap : Nat) (t : List UInt8) (ht : t.length = 16) (hc : ((t.getD 10 0 == 255 && t.getD 11 0 == 255) && (t.take 10).all (fun c => c == 0)) = true) (q : Nat → Nat) (hq : q = fun k => (t.getD (12 + k) 0).toNat) (hA : At w b o (mappedHead ++ dotted (q 0) (q 1) (q 2) (q 3))) (hbl : b < w.heap.size) (hcap : (mappedHead ++ dotted (q 0) (q 1) (q 2) (q 3)).length ≤ cap) :
    Calls Tryd.prog 13 #[.slice (some ⟨b, o, none⟩) (mappedHead ++ dotted (q 0) (q 1) (q 2) (q 3)).length cap] w fun e w' => e = .returned (.tuple #[agg16 (fun i => ((t.getD i 0).toNat : Int)), .bool true]) ∧ Below w.heap.size w w' := by
  rw [← six_bytes]
  have hq256 : ∀ k, q k < 256 := fun k => by rw [hq]; exact (t.getD (12 + k) 0).toNat_lt
  have hdl : (mapRest q).length ≤ 100 := by
    have h0 := decDigits_len3 (q 0) (hq256 0)
    have h1 := decDigits_len3 (q 1) (hq256 1)
    have h2 := decDigits_len3 (q 2) (hq256 2)
    have h3 := decDigits_len3 (q 3) (hq256 3)
    have h4 := (hex16_len 65535).2
    simp [mapRest, dotted]; omega
  rw [mapped_split] at *
  simp only [Bool.and_eq_true, beq_iff_eq, List.all_eq_true] at hc
  obtain ⟨⟨e10, e11⟩, hz⟩ := hc
  have hzero : ∀ i, i < 10 → t.getD i 0 = 0 := fun i hi => by
    rw [List.getD_eq_getElem?_getD, List.getElem?_eq_getElem (by omega)]
    exact hz _ (List.mem_take_iff_getElem.2 ⟨i, by omega, rfl⟩)
  have hlen : ([58, 58] ++ mapRest q).length = (mapRest q).length + 2 := by simp
  refine pv6_both w b o cap _ 0 0 3 5 _ (fun _ => 0) (fun k => if k = 0 then 65535 else if k = 1 then ((q 0 * 256 + q 1 : Nat) : Int) else if k = 2 then ((q 2 * 256 + q 3 : Nat) : Int) else 0) _ rfl hA hbl (by omega) hcap (by omega) (fun i hi => absurd hi (by omega)) (by rfl) (by rfl) (by omega) (by omega) (fun k hk => ?_) (gq_bound t) (fun W hb => ?_) (fun W a c hb hac => ?_)
  · show ((gq t k : Nat) : Int) = _
    have : k = 0 ∨ k = 1 ∨ k = 2 ∨ k = 3 ∨ k = 4 ∨ k = 5 ∨ k = 6 ∨ k = 7 := by omega
    unfold gq
    rcases this with rfl | rfl | rfl | rfl | rfl | rfl | rfl | rfl
    · rw [hzero _ (by omega), hzero _ (by omega)]; rfl
    · rw [hzero _ (by omega), hzero _ (by omega)]; rfl
    · rw [hzero _ (by omega), hzero _ (by omega)]; rfl
    · rw [hzero _ (by omega), hzero _ (by omega)]; rfl
    · rw [hzero _ (by omega), hzero _ (by omega)]; rfl
    · rw [e10, e11]; rfl
    · rw [hq]; rfl
    · rw [hq]; rfl
  · exact pwords_none W _ _ _
  · have e : ([58, 58] ++ mapRest q).length - (0 + 2) = (mapRest q).length := by omega
    rw [e] at hac ⊢
    have hp : 0 < (mapRest q).length := by simp [mapRest]; omega
    obtain ⟨rfl, hle⟩ := hac hp
    exact pmap_text W b (o + 2) c q hq256 ((hA.right).on hb hbl) (Nat.lt_of_lt_of_le hbl hb.size) (by omega) hle

theorem pv6_any (w : World) (b o cap : Nat) (t : List UInt8) (ht : t.length = 16) (hA : At w b o (ipText t)) (hbl : b < w.heap.size) (hcap : (ipText t).length ≤ cap) :
    Calls Tryd.prog 13 #[.slice (some ⟨b, o, none⟩) (ipText t).length cap] w fun e w' => e = .returned (.tuple #[agg16 (fun i => ((t.getD i 0).toNat : Int)), .bool true]) ∧ Below w.heap.size w w' := by
  unfold ipText at *
  by_cases h : ((t.getD 10 0 == 255 && t.getD 11 0 == 255) && (t.take 10).all (fun c => c == 0)) = true
  · rw [if_pos h] at *
    exact pv6_map w b o cap t ht h (fun k => (t.getD (12 + k) 0).toNat) rfl hA hbl hcap
  · rw [if_neg h] at *
    exact pv6_six w b o cap t _ _ ⟨rfl, rfl⟩ hA hbl hcap
end Go.Proofs.Qxb6604517aDoor
