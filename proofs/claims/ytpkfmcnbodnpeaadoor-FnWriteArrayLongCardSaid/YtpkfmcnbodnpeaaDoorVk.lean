/- AMQP: the walk of FnWriteArrayUint. PRINTED by wip/genvk.py. -/
import Derived.Test.YtpkfmcnbodnpeaaDoorVj
namespace Go.Proofs.YtpkfmcnbodnpeaaDoor
open Go.RowKit Go.Maps
set_option linter.unusedVariables false

theorem elK_num (B : Nat) (t k : Int) (f : Int → Int) (e : Int → List Int) (l : List Int) (sz : Nat) (hsz : sz ≤ 8) (ht0 : 0 < t) (ht1 : t ≤ 255) (hkd : look2 KINDS t (.lit (.int .i64 0)) = pairD k sz) (hk2 : 2 ≤ k) (hk17 : k ≤ 17) (hks : k < 6 ∨ 9 < k) (ht69 : t ≠ 69)
    (he : ∀ x ∈ l, (e x).length = sz ∧ valBE (e x) = f x ∧ IsB (e x)) : ElK B t k f e l := by
  intro j hj W A c h hB hc hm
  have hx := he _ (getD_mem2 l j hj)
  obtain ⟨h1, h2, h3⟩ := hx
  have hd : (l.drop j).flatMap e = e (l.getD j 0) ++ (l.drop (j + 1)).flatMap e := drop_flat e l j hj
  have hib : IsB ((l.drop j).flatMap e) := by
    intro y hy
    simp only [List.mem_flatMap] at hy
    obtain ⟨x, hx, hy⟩ := hy
    exact (he x (List.mem_of_mem_drop hx)).2.2 y hy
  have hl : sz ≤ ((l.drop j).flatMap e).length := by rw [hd, List.length_append]; omega
  have ht := take_num W B c sz A t k 7 _ h hB hib ht0 ht1 hc hm hkd hk2 hk17 hks hsz ht69 hl
  have e1 : ((l.drop j).flatMap e).take sz = e (l.getD j 0) := by rw [hd, List.take_left' h1]
  have e2 : ((l.drop j).flatMap e).drop sz = (l.drop (j + 1)).flatMap e := by rw [hd, List.drop_left' h1]
  rw [e1, e2, h2] at ht
  exact ht

theorem hdr_pos (n sz t : Nat) : 0 < (hdr n sz t).length := by
  unfold hdr
  split
  · simp
  · simp
theorem flat_eq (e : Int → List Int) (sz : Nat) : ∀ (l : List Int), (∀ x ∈ l, (e x).length = sz) → (l.flatMap e).length = l.length * sz := by
  intro l
  induction l with
  | nil => intro _; simp
  | cons x xs ih =>
    intro h
    rw [List.flatMap_cons, List.length_append, ih (fun y hy => h y (by simp [hy])), h x (by simp), List.length_cons, Nat.add_mul]
    omega

/-- What is written as an array is read as one. -/
theorem wrote_hdr (w : World) (B c ca ba sz t : Nat) (A Aa : Option Addr) (k : Int) (f : Int → Int) (e : Int → List Int) (l : List Int) (hn : l.length ≤ 300) (hsz0 : 0 < sz) (hsz : sz ≤ 8) (ht0 : 0 < t) (ht1 : t ≤ 255) (hkd : look2 KINDS (t : Int) (.lit (.int .i64 0)) = pairD k sz) (hk2 : 2 ≤ k) (hE : ElK B (t : Int) k f e l)
    (he : ∀ x ∈ l, (e x).length = sz ∧ IsB (e x)) (h : Reads w B 1 A (hdr l.length sz t ++ l.flatMap e).length (bs (hdr l.length sz t ++ l.flatMap e))) (hB : B ≤ w.heap.size) (hc : (hdr l.length sz t ++ l.flatMap e).length ≤ c) (hm : c ≤ maxLen)
    (hka : KR w ba Aa l.length (l.flatMap fun x => c6 k (f x))) :
    Calls Tryd.prog 14 #[.slice A (hdr l.length sz t ++ l.flatMap e).length c, .bool true, .agg #[.int .i64 23, .int .u64 0, .string ByteArray.empty, .slice Aa l.length ca, .int .i64 0, .slice none 0 0]] w fun e w' => e = .returned (.bool true) ∧ Below w.heap.size w w' := by
  have hfl : (l.flatMap e).length = l.length * sz := flat_eq e sz l (fun x hx => (he x hx).1)
  have hfb : IsB (l.flatMap e) := by
    intro y hy
    simp only [List.mem_flatMap] at hy
    obtain ⟨x, hx, hy⟩ := hy
    exact (he x hx).2 y hy
  have hmul : l.length * sz ≤ 2400 := by
    have := Nat.mul_le_mul hn hsz
    omega
  have hnm : l.length ≤ l.length * sz := Nat.le_mul_of_pos_right _ hsz0
  obtain ⟨m, hmm⟩ : ∃ m, m = l.length * sz := ⟨_, rfl⟩
  rw [← hmm] at hfl hmul hnm
  by_cases h8 : m + 2 ≤ 255
  · have hh : hdr l.length sz t ++ l.flatMap e = 224 :: ((m : Int) + 2) :: (l.length : Int) :: (t : Int) :: l.flatMap e := by
      unfold hdr
      rw [← hmm, if_pos h8]
      push_cast
      rfl
    rw [hh] at h hc ⊢
    have hr : (((m : Int) + 2) :: (l.length : Int) :: (t : Int) :: l.flatMap e).length = m + 3 := by simp [hfl]
    refine wrote_arr w B c ca ba A Aa 224 _ k f l h hB (by omega) (by omega) hc hm hn hka (fun W A c h2 hB2 hc2 hm2 => ?_)
    exact take_arr W B c 1 (m + 2) l.length A 224 _ ((l.length : Int) :: (t : Int) :: l.flatMap e) (t : Int) k f e l h2 hB2 (isB_cons (by omega) (by omega) (isB_cons (by omega) (by omega) (isB_cons (by omega) (by omega) hfb))) hc2 hm2 (by omega) (by omega)
      (by rfl) (by omega) (by omega) (by omega) (by rw [hr]; omega) (by simp [valBE]) rfl (by simp [hfl]) (by omega) (by omega) (by omega) (by simp [valBE]) rfl rfl hn (by omega) (by omega) ⟨_, hkd⟩ hE
  · have hh : hdr l.length sz t ++ l.flatMap e = 240 :: (be ((m : Int) + 5) 4 ++ (be (l.length : Int) 4 ++ ((t : Int) :: l.flatMap e))) := by
      unfold hdr
      rw [← hmm, if_neg h8, show ((m + 5 : Nat) : Int) = (m : Int) + 5 from by omega]
      simp
    rw [hh] at h hc ⊢
    have hb4 : (be ((m : Int) + 5) 4).length = 4 := be_length _ _
    have hb4' : (be (l.length : Int) 4).length = 4 := be_length _ _
    have hD : (be (l.length : Int) 4 ++ ((t : Int) :: l.flatMap e)).length = m + 5 := by simp [hb4', hfl]; omega
    refine wrote_arr w B c ca ba A Aa 240 _ k f l h hB (by omega) (by omega) hc hm hn hka (fun W A c h2 hB2 hc2 hm2 => ?_)
    exact take_arr W B c 4 (m + 5) l.length A 240 _ (be (l.length : Int) 4 ++ ((t : Int) :: l.flatMap e)) (t : Int) k f e l h2 hB2 (isB_append (isB_be _ _) (isB_append (isB_be _ _) (isB_cons (by omega) (by omega) hfb))) hc2 hm2 (by omega) (by omega)
      (by rfl) (by omega) (by omega) (by omega) (by rw [List.length_append, hb4]; omega) (by rw [List.take_left' hb4, valBE_be]; simp only [Int.reducePow]; push_cast; omega) (List.drop_left' hb4) hD (by omega) (by omega) (by omega)
      (by rw [List.take_left' hb4', valBE_be]; simp only [Int.reducePow]; omega) (List.drop_left' hb4') rfl hn (by omega) (by omega) ⟨_, hkd⟩ hE

theorem first_big (thr : Int) : ∀ (l : List Int), (∀ x ∈ l, x ≤ thr) ∨ ∃ p, p < l.length ∧ thr < l.getD p 0 ∧ ∀ j, j < p → l.getD j 0 ≤ thr := by
  intro l
  induction l with
  | nil => exact .inl (fun x hx => by cases hx)
  | cons x xs ih =>
    by_cases hx : x ≤ thr
    · rcases ih with h | ⟨p, h1, h2, h3⟩
      · exact .inl (fun y hy => by rcases List.mem_cons.1 hy with rfl | hy; exact hx; exact h y hy)
      · refine .inr ⟨p + 1, by simp; omega, by simpa using h2, fun j hj => ?_⟩
        rcases j with _ | j
        · simpa using hx
        · simpa using h3 j (by omega)
    · exact .inr ⟨0, by simp, by simpa using (by omega : thr < x), fun j hj => absurd hj (by omega)⟩

/-- A list of uints as an array: written, and read. -/
theorem arrU (l : List Int) (hl : ∀ x ∈ l, 0 ≤ x ∧ x ≤ 4294967295) (hn : l.length ≤ 300) :
    ∃ L : List Int, 0 < L.length ∧ L.length ≤ 900000 ∧
      (∀ (W0 W : World) (gb c : Nat) (A : Option Addr), RowN W 35 A .u32 l → Bw W0 W gb gb [] → Calls Tryd.prog 46 #[.slice A l.length c, .pointer (some ⟨gb, 0, none⟩)] W fun e w' => e = .returned .nilIface ∧ Bw W0 w' gb gb L) ∧
      (∀ (W : World) (B c ca ba : Nat) (A Aa : Option Addr), Reads W B 1 A L.length (bs L) → B ≤ W.heap.size → L.length ≤ c → c ≤ maxLen → KR W ba Aa l.length (l.flatMap fun x => c6 4 x) →
        Calls Tryd.prog 14 #[.slice A L.length c, .bool true, .agg #[.int .i64 23, .int .u64 0, .string ByteArray.empty, .slice Aa l.length ca, .int .i64 0, .slice none 0 0]] W fun e w' => e = .returned (.bool true) ∧ Below W.heap.size W w') := by
  rcases first_big 255 l with h | ⟨p, hp, hbig, hsm⟩
  · refine ⟨hdr l.length 1 82 ++ l.flatMap (fun x => [x]), ?_, ?_, fun W0 W gb c A hr hb => MarshalU_small W0 W gb gb c A l hr hb hn (fun x hx => ⟨(hl x hx).1, h x hx⟩), fun W B c ca ba A Aa hr hB hc hm hk => ?_⟩
    · rw [List.length_append]; have := hdr_pos l.length 1 82; omega
    · rw [List.length_append]
      have h1 := hdr_len l.length 1 82
      have h2 := flat_len (fun x => [x]) 1 (fun x => Nat.le_refl _) l
      omega
    · refine wrote_hdr W B c ca ba 1 82 A Aa 4 (fun x => x) (fun x => [x]) l hn (by omega) (by omega) (by omega) (by omega) (by rfl) (by omega) ?_ (fun x hx => ⟨rfl, isB_cons (hl x hx).1 (h x hx) isB_nil⟩) hr hB hc hm hk
      exact elK_num B 82 4 (fun x => x) (fun x => [x]) l 1 (by omega) (by omega) (by omega) (by rfl) (by omega) (by omega) (by omega) (by omega) (fun x hx => ⟨rfl, by simp [valBE], isB_cons (hl x hx).1 (h x hx) isB_nil⟩)
  · refine ⟨hdr l.length 4 112 ++ l.flatMap (fun x => be x 4), ?_, ?_, fun W0 W gb c A hr hb => MarshalU_big W0 W gb gb c A l hr hb hn hl p hp hbig hsm, fun W B c ca ba A Aa hr hB hc hm hk => ?_⟩
    · rw [List.length_append]; have := hdr_pos l.length 4 112; omega
    · rw [List.length_append]
      have h1 := hdr_len l.length 4 112
      have h2 := flat_len (fun x => be x 4) 4 (fun x => by rw [be_length]; exact Nat.le_refl _) l
      omega
    · refine wrote_hdr W B c ca ba 4 112 A Aa 4 (fun x => x) (fun x => be x 4) l hn (by omega) (by omega) (by omega) (by omega) (by rfl) (by omega) ?_ (fun x hx => ⟨be_length _ _, isB_be _ _⟩) hr hB hc hm hk
      exact elK_num B 112 4 (fun x => x) (fun x => be x 4) l 4 (by omega) (by omega) (by omega) (by rfl) (by omega) (by omega) (by omega) (by omega) (fun x hx => ⟨be_length _ _, by rw [valBE_be]; have := hl x hx; simp only [Int.reducePow]; omega, isB_be _ _⟩)
end Go.Proofs.YtpkfmcnbodnpeaaDoor
