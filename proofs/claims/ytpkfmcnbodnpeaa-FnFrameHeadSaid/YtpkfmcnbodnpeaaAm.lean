/- AMQP: FrameHead at eight bytes and more; left. (For FnFrameHead.) -/
import Derived.Test.YtpkfmcnbodnpeaaAl
namespace Go.Proofs.Ytpkfmcnbodnpeaa
open Go.RowKit
set_option linter.unusedVariables false

/-- What FrameHead tells. -/
def HeadTold (w : World) (sz off kind ch : Int) (rest : List Int) (e : Ending) (w' : World) : Prop :=
  ∃ g cs, e = .returned (.tuple #[.int .u32 sz, .int .u8 off, .int .u8 kind, .int .u16 ch, .slice (some ⟨g, 0, none⟩) rest.length cs.length, .bool true]) ∧ Blk w' g 5 cs ∧ cs.take rest.length = bs rest ∧ rest.length ≤ cs.length ∧ Below w.heap.size w w'

set_option maxHeartbeats 4000000 in
set_option maxRecDepth 100000 in
theorem FrameHead_yes (w : World) (A : Option Addr) (c n : Nat) (xs rest : List Int) (hnx : n = xs.length) (hrest : rest = xs.drop 8) (h : Reads w w.heap.size 1 A xs.length (bs xs)) (h8 : 8 ≤ n) (hn : n ≤ 1000000)
    (a b d e off kind h' l sz : Int) (ha : 0 ≤ a) (ha1 : a ≤ 255) (hb : 0 ≤ b) (hb1 : b ≤ 255) (hd : 0 ≤ d) (hd1 : d ≤ 255) (he : 0 ≤ e) (he1 : e ≤ 255) (hh : 0 ≤ h') (hh1 : h' ≤ 255) (hl : 0 ≤ l) (hl1 : l ≤ 255) (ho : 2 ≤ off) (ho1 : off ≤ 255)
    (hsz : 8 ≤ a * 16777216 + (b * 65536 + (d * 256 + e))) (hsz' : sz = a * 16777216 + (b * 65536 + (d * 256 + e)))
    (x0 : xs[0]? = some a) (x1 : xs[1]? = some b) (x2 : xs[2]? = some d) (x3 : xs[3]? = some e) (x4 : xs[4]? = some off) (x5 : xs[5]? = some kind) (x6 : xs[6]? = some h') (x7 : xs[7]? = some l) :
    Calls Try.prog 6 #[.slice A n c] w (HeadTold w sz off kind (h' * 256 + l) rest) := by
  have hlb : (bs xs).length = n := by rw [hnx]; simp [bs]
  have hcc := copied_calls w A c (bs xs) (by rw [hlb, hnx]; exact h) (pk_one2 xs) (by omega)
  rw [hlb] at hcc
  have HC := Lib.hid hcc
  have HL := Lib.hid hlb
  have HSZ := Lib.hid hsz'
  have HNX := Lib.hid hnx
  have HREST := Lib.hid hrest
  have X0 := Lib.hid x0
  have X1 := Lib.hid x1
  have X2 := Lib.hid x2
  have X3 := Lib.hid x3
  have X4 := Lib.hid x4
  have X5 := Lib.hid x5
  have X6 := Lib.hid x6
  have X7 := Lib.hid x7
  clear h hlb hnx hcc hsz' hrest x0 x1 x2 x3 x4 x5 x6 x7
  go_enter Try.func6, Try.ntmps6
  go_wp2_with (first
    | (go_at_call 9
       go_must (
         (refine HC.out.mono ?_)
         rintro r w1 ⟨g, cs, rfl, hb1, hcs1, hcm, ht1, hB1, hbel1⟩
         rw [HL.out]
         rw [HL.out] at hcs1
         have hgl : g < w1.heap.size := hb1.lt
         have HBK := Lib.hid hb1
         have HT := Lib.hid ht1
         have HBEL := Lib.hid hbel1
         clear hb1 ht1 hbel1))
    | (go_at_call 10
       go_must (
         (refine (New_calls w1 _ _ _).mono ?_)
         rintro r w2 ⟨rfl, hbf, hbel2⟩
         have HBF := Lib.hid hbf
         have HBEL2 := Lib.hid hbel2
         have HBK2 := Lib.hid (HBK.out.below hbel2 hgl)
         clear hbf hbel2))
    | (go_at_call 11
       go_must (
         (refine (ParseHeader_yes w2 w1.heap.size g n _ a b d e off kind h' l HBF.out hgl hn h8 hcs1 hcm ha ha1 hb hb1 hd hd1 he he1 hh hh1 hl hl1 ho ho1 (pk_at2 HBK2.out HT.out X0.out) (pk_at2 HBK2.out HT.out X1.out) (pk_at2 HBK2.out HT.out X2.out) (pk_at2 HBK2.out HT.out X3.out) (pk_at2 HBK2.out HT.out X4.out) (pk_at2 HBK2.out HT.out X5.out) (pk_at2 HBK2.out HT.out X6.out) (pk_at2 HBK2.out HT.out X7.out) hsz).mono ?_)
         rintro r w3 ⟨rfl, hbf3, hbel3⟩
         rw [← HSZ.out]
         have HBF3 := Lib.hid hbf3
         have HBEL3 := Lib.hid hbel3
         have HBK3 := Lib.hid (HBK2.out.below hbel3 hgl)
         clear hbf3 hbel3)))
  have hblk := Blk.new w3 41 [.int .u32 sz, .int .u8 off, .int .u8 kind, .int .u16 (h' * 256 + l)]
  have mkS : ∀ W, Below (w3.heap.size + 1) (w3.alloc (.cells #[.int .u32 sz, .int .u8 off, .int .u8 kind, .int .u16 (h' * 256 + l)] 41)) W → (W.cell? ⟨w3.heap.size, 0, none⟩ = some (.int .u32 sz) ∧ W.cell? ⟨w3.heap.size, 1, none⟩ = some (.int .u8 off) ∧ W.cell? ⟨w3.heap.size, 2, none⟩ = some (.int .u8 kind) ∧ W.cell? ⟨w3.heap.size, 3, none⟩ = some (.int .u16 (h' * 256 + l))) := fun W hW => blk_cells4 (hblk.below hW (by simp))
  have hS0 := mkS _ (Below.refl _ (w3.alloc (.cells #[.int .u32 sz, .int .u8 off, .int .u8 kind, .int .u16 (h' * 256 + l)] 41))).drew
  have hs1 := HBEL.out.size
  have hs2 := HBEL2.out.size
  have hs3 := HBEL3.out.size
  have HBLK := Lib.hid hblk
  have MKS := Lib.hid mkS
  clear hblk mkS
  go_region_held3 (fun W => W.cell? ⟨w3.heap.size, 0, none⟩ = some (.int .u32 sz) ∧ W.cell? ⟨w3.heap.size, 1, none⟩ = some (.int .u8 off) ∧ W.cell? ⟨w3.heap.size, 2, none⟩ = some (.int .u8 kind) ∧ W.cell? ⟨w3.heap.size, 3, none⟩ = some (.int .u16 (h' * 256 + l))) (first | assumption) (first
    | (go_at_call 12
       refine (Bytes_calls _ w1.heap.size g n cs.length (Blk.drewN (Blk.alloc HBF3.out _) 1) h8 hcs1 hcm).mono ?_
       rintro r w4 ⟨hr4, m, hw4⟩
       generalize hA8 : (if cs.length = 8 then (some (⟨g, 0, none⟩ : Addr)) else some ⟨g, 8, none⟩) = A8 at hr4
       subst hr4
       have HA8 := Lib.hid hA8
       have hbel4 : Below (w3.heap.size + 1) (w3.alloc (.cells #[.int .u32 sz, .int .u8 off, .int .u8 kind, .int .u16 (h' * 256 + l)] 41)) w4 := by rw [hw4]; exact below_drewN (Below.refl _ _).drew m
       have hS4 := MKS.out _ hbel4
       have HB4 := Lib.hid hbel4
       clear hw4 hbel4 hA8)
    | (go_at_call 9
       have hR4 : Reads w4 w4.heap.size 1 A8 (n - 8) (bs rest) := by
         rw [← HA8.out]
         have hk := (HBK3.out.alloc (.cells #[.int .u32 sz, .int .u8 off, .int .u8 kind, .int .u16 (h' * 256 + l)] 41)).below HB4.out (by omega)
         have hr := ((hk.reads 0 n (by omega)).cut (k := 8) (cap := cs.length) h8 hcs1).more (show g + 1 ≤ w4.heap.size from hk.lt)
         have e1 : (cs.drop 0).take n = bs xs := by rw [List.drop_zero, ← HL.out]; exact HT.out
         rw [e1] at hr
         simp only [Nat.mul_one, bs_drop, ← HREST.out] at hr
         exact hr
       have hrl : rest.length = n - 8 := by rw [HREST.out, List.length_drop, ← HNX.out]
       have hc5 := copied_calls w4 _ (cs.length - 8) (bs rest) (by rw [bs_length, hrl]; exact hR4) (pk_one2 rest) (by rw [bs_length]; omega)
       rw [bs_length, hrl] at hc5
       refine hc5.mono ?_
       rintro r w5 ⟨g5, cs5, rfl, hb5, hcs5, hcm5, ht5, hB5, hbel5⟩
       rw [bs_length] at ht5 hcs5
       have hbel6 := HB4.out.trans (hbel5.mono (by have := HB4.out.size; simpa using this))
       have hS5 := MKS.out _ hbel6
       have HB6 := Lib.hid hbel6
       have HB5 := Lib.hid hb5
       have HT5 := Lib.hid ht5
       have HRL := Lib.hid hrl
       have HCS5 := Lib.hid hcs5
       clear hbel6 hb5 ht5 hrl hcs5 hbel5 hR4 hc5))
  all_goals go_wp2
  refine bodyPost_ret (results_tmp6 rfl _ _ _) rfl ?_
  refine ⟨g5, cs5, ?_, HB5.out, HT5.out, HCS5.out, ?_⟩
  · rw [bs_length, HRL.out]; rfl
  · exact ((HBEL.out.trans (HBEL2.out.mono hs1)).trans (HBEL3.out.mono hs1)).trans (((Below.refl _ w3).alloc (Nat.le_refl _) _).mono (by omega) |>.trans (HB6.out.mono (by omega)))

theorem conv_reads {P : Program} {w : World} {B n c : Nat} {A : Option Addr} {l : List Int} (h : Reads w B 1 A n (bs l)) (src e dst : TypeId) (hs : P.underlying src = some (.slice e)) (he : P.underlying e = some (.int .u8)) (hd : P.underlying dst = some .string) :
    (convert src dst (.slice A n c)).run P w = .ok (.string (strOfNums l)) w := by
  have hn := h.bytes
  rcases A with _ | ad
  · have h0 : n = 0 := by
      rcases Nat.eq_zero_or_pos n with h0 | h0
      · exact h0
      · obtain ⟨_, h1, _⟩ := h.2 h0
        cases h1
    have : l = [] := List.eq_nil_of_length_eq_zero (by omega)
    subst this
    exact run_convert_bytes_nil w src e hs he n c dst hd
  · have hl : (loadCells ad n).run P w = .ok (l.map (Value.int .u8)).toArray w := by
      have := run_loadCells_list (P := P) w ad (l.map (Value.int .u8)) (fun j v hj => by
        have hj0 : 0 < n := by
          rcases Nat.eq_zero_or_pos n with h0 | h0
          · have : l = [] := List.eq_nil_of_length_eq_zero (by omega)
            subst this
            simp at hj
          · exact h0
        obtain ⟨ad', h1, _, h2⟩ := h.2 hj0
        injection h1 with h1
        subst h1
        exact h2 j v hj)
      simpa [hn] using this
    rw [run_convert_bytes_string w src dst e _ n c hs he hd, run_bytesToString w ad n c l hl, foldl_push_bytes]
    simp [strOfNums, ByteArray.empty, ByteArray.emptyWithCapacity]
    rfl

theorem left_yes (w : World) (A0 A1 : Option Addr) (n c0 c1 : Nat) (l : List Int) (h0 : Reads w w.heap.size 1 A0 n (bs l)) (h1 : Reads w w.heap.size 1 A1 n (bs l)) :
    Calls Try.prog 7 #[.slice A0 n c0, .slice A1 n c1] w fun e w' => e = .returned (.bool true) ∧ w = w' := by
  have k0 : ∀ c, (convert 22 9 (.slice A0 n c)).run Try.prog w = .ok (.string (strOfNums l)) w := fun c => conv_reads h0 _ _ _ Try.underlying22 Try.underlying5 Try.underlying9
  have k1 : ∀ c, (convert 22 9 (.slice A1 n c)).run Try.prog w = .ok (.string (strOfNums l)) w := fun c => conv_reads h1 _ _ _ Try.underlying22 Try.underlying5 Try.underlying9
  clear h0 h1
  go_enter Try.func7, Try.ntmps7
  go_wp2
  go_ret
  exact ⟨by simp, rfl⟩
end Go.Proofs.Ytpkfmcnbodnpeaa
