/- spec.elements, given pieces at the values. PRINTED by wip/genic.py. -/
import Derived.Test.YtjjhckbidcdkcaaDoorIb
import Derived.Test.YtjjhckbidcdkcaaDoorHg
namespace Go.Proofs.YtjjhckbidcdkcaaDoor
open Go.RowKit Go.Maps
set_option linter.unusedVariables false

/-- A value without its descriptor. -/
def VT.bare : VT → VT
  | .nil => .nil
  | .mk k u s o n f => .mk k u s o (fun b => if b then 0 else n false) f
def bareA {α : Type} (A : Bool → α) (z : α) (b : Bool) : α := if b then z else A false
theorem TV.bare {W : World} {B : Nat} : ∀ {T : VT} {A : Bool → Option Addr} {c : Bool → Nat}, TV W B T A c → TV W B T.bare (bareA A none) (bareA c 0)
  | .nil, A, c, h => h.elim
  | .mk k u s o n f, A, c, h => by
    obtain ⟨hwf, hk⟩ := h
    refine ⟨hwf, fun b => ?_⟩
    cases b
    · exact hk false
    · exact ⟨Nat.le_refl _, Nat.zero_le _, fun h => absurd h (by simp)⟩
theorem bare_vV (T : VT) (A : Bool → Option Addr) (c : Bool → Nat) (h : T ≠ .nil) : vV T.bare (bareA A none) (bareA c 0) = .agg #[.int .i64 T.k, .int .u64 T.u, .string T.s, .slice (A false) (T.n false) (c false), .int .i64 T.o, .slice none 0 0] := by
  cases T with
  | nil => exact absurd rfl h
  | mk k u s o n f => rfl
theorem mapSt_below {w0 W W' : World} {B b : Nat} {L : List (Int × Int)} (h : MapSt w0 W B b L) (hb : Below W.heap.size W W') : MapSt w0 W' B b L := by
  obtain ⟨⟨n, D, hown, hn, hD, hat⟩, hbel, hbb, hsz⟩ := h
  have hlt := hown.lt
  exact ⟨⟨n, D, hown.kept (grown_of_below hb none) (by simp), hn, hD, hat⟩, hbel.trans (hb.mono (by omega)), hbb, Nat.le_trans hsz hb.size⟩
set_option maxRecDepth 100000 in
theorem run_look {w0 w : World} {B b : Nat} {L : List (Int × Int)} (h : MapSt w0 w B b L) (k : Int) (hk0 : -9223372036854775808 ≤ k) (hk1 : k ≤ 9223372036854775807) (r : Int) (hr : look L k = r) :
    (Instr.lookup 158 (.map (some b)) (.int .i64 k) false).run Tryd.prog w = .ok (.int .i64 r) w := by
  obtain ⟨⟨n, D, hown, hn, hD, hat⟩, hbel, hbb, hsz⟩ := h
  have hkey : keyOf Tryd.prog 3 (.int .i64 k) = some (.int .i64 k) := keyOf_int_mk Tryd.underlying3 (wfI64 hk0 hk1)
  obtain ⟨c, hrun, hc, _⟩ := hown.lookup_int mapLaw Tryd.underlying158 Tryd.underlying3 (mapZero w) hkey
  rw [hat k] at hc
  have e : r = c := by rw [← hr]; injection hc with h1; injection h1
  rw [e]
  exact hrun
theorem elemG_more {K : Nat → VT} {j : Nat} {code : Int} {d x : List Int} {Li : List Pce} (h : ElemG K j code d) (hx : PcsX (K j) Li) (hm : (code, x) ∈ Li) : ElemG K (j + 1) code (d ++ x) := by
  obtain ⟨ds, rfl, hds⟩ := h
  refine ⟨fun i => if i = j then x else ds i, ?_, fun i hi => ?_⟩
  · have hc : ∀ m, m ≤ j → catV (fun i => if i = j then x else ds i) m = catV ds m := fun m => by
      induction m with
      | zero => intro _; rfl
      | succ m ih => intro hm; unfold catV; rw [ih (by omega), if_neg (by omega)]
    show _ = catV _ j ++ _
    rw [hc j (Nat.le_refl _)]
    simp
  · by_cases hij : i = j
    · subst hij
      exact ⟨Li, hx, by simp only [if_true]; exact hm⟩
    · obtain ⟨Lj, h1, h2⟩ := hds i (by omega)
      exact ⟨Lj, h1, by simp only [if_neg hij]; exact h2⟩
theorem cod_pos {k : Int} (h : 0 ≤ k ∧ k < 24) : cod k ≠ 0 := by
  rcases (show k = 0 ∨ k = 1 ∨ k = 2 ∨ k = 3 ∨ k = 4 ∨ k = 5 ∨ k = 6 ∨ k = 7 ∨ k = 8 ∨ k = 9 ∨ k = 10 ∨ k = 11 ∨ k = 12 ∨ k = 13 ∨ k = 14 ∨ k = 15 ∨ k = 16 ∨ k = 17 ∨ k = 18 ∨ k = 19 ∨ k = 20 ∨ k = 21 ∨ k = 22 ∨ k = 23 by omega) with rfl | rfl | rfl | rfl | rfl | rfl | rfl | rfl | rfl | rfl | rfl | rfl | rfl | rfl | rfl | rfl | rfl | rfl | rfl | rfl | rfl | rfl | rfl | rfl <;> decide
/-- The values so far under one code. -/
def DOK (K : Nat → VT) (kind code : Int) (j : Nat) (d : List Int) (b : Bool) : Prop := (b = true → code ≠ 0 ∧ ElemG K j code d) ∧ (code = cod kind → code ≠ 0 → b = true)
/-- What elements makes under the first m codes. -/
def ElmG (kind : Int) (K : Nat → VT) (n bound m : Nat) (L : List Pce) : Prop := L.length ≤ m ∧ (m = 2 → L ≠ []) ∧ ∀ p ∈ L, p.1 ≠ 0 ∧ (p.1 = sho kind ∨ p.1 = cod kind) ∧ IsB p.2 ∧ p.2.length ≤ bound ∧ ElemG K n p.1 p.2
def cc (kind : Int) (m : Nat) : Int := if m = 0 then sho kind else cod kind
theorem sho_in (k : Int) : 0 ≤ sho k ∧ sho k ≤ 163 := look_in shoL 163 (by omega) (by decide) k
set_option maxHeartbeats 4000000 in
set_option maxRecDepth 100000 in
theorem elements_of (B gf : Nat) (sh : Bool) (hgf : B ≤ gf) (W : World) (st kind : Int) (hkr : 0 ≤ kind ∧ kind < 24) (n c : Nat) (A : Option Addr) (K : Nat → VT) (hB : B ≤ W.heap.size) (hb : Blk W gf 77 [.int .u64 st, .bool sh])
    (hn : n ≤ 1000) (hk0 : 0 < n → ∃ g p, A = some ⟨g, p, none⟩ ∧ g < B ∧ ∀ i, i < n → ∃ Ai ci, VAt W g (p + i * 6) (K i) Ai ci ∧ TV W B (K i) Ai ci) (hkd : ∀ i, i < n → (K i).k = kind) (hct : sumV (fun i => cntK (K i)) n ≤ 500)
    (ih : ∀ i, i < n → PC B gf sh (K i).bare) :
    Calls Tryd.prog 99 #[.pointer (some ⟨gf, 0, none⟩), .int .i64 kind, .slice A n c] W fun e W' => ∃ v L st', e = .returned v ∧ ElmG kind K n (140000 * sumV (fun i => cntK (K i)) n) 2 L ∧ PcsW W' W.heap.size L v ∧ Blk W' gf 77 [.int .u64 st', .bool sh] ∧ W.grownBy W' (some gf) := by
  obtain ⟨R0, hR0⟩ : ∃ R, look shoL kind = R := ⟨_, rfl⟩
  have hcod := fun w => coded_calls w kind (by omega)
  obtain ⟨R1, hR1⟩ : ∃ R, cod kind = R := ⟨_, rfl⟩
  rw [hR1] at hcod
  have HR0 := Lib.hid hR0
  have HR1 := Lib.hid hR1
  have HCOD := Lib.hid hcod
  have HKR := Lib.hid hkr
  have HK0 := Lib.hid hk0
  have HKD := Lib.hid hkd
  have HCT := Lib.hid hct
  have HIH := Lib.hid ih
  have HBF := Lib.hid hb
  have hmx : n ≤ 9223372036854775807 := by omega
  obtain ⟨i0, hi0, hiz0, hiz1, hiz2⟩ := info_parts infoU8
  clear hR0 hR1 hcod hkr hk0 hkd hct ih hb
  go_enter Tryd.func99, Tryd.ntmps99
  go_wp2_with (first
    | ((with_reducible refine gate_makeMap rfl ?_)
       go_must (
         (refine wpList_makeMap_i (w0 := W) rfl 158 rfl (Below.refl _ _) (Nat.le_refl _) ?_)
         intro w1 mb HM))
    | ((with_reducible refine gate_insert rfl ?_)
       go_must (
         (have HM0 := HM)
         clear HM
         refine wpList_insert_i rfl _ _ _ 158 rfl Tryd.underlying158 _ _ rfl rfl rfl HM0 (by simp only [List.length_cons, List.length_nil]; omega) (by omega) (by omega) (by omega) (by omega) ?_
         intro w1 HM
         clear HM0)))
  have hlk1 := run_look (mapSt_below HM (Below.refl _ _).drew) kind (by have := HKR.out; omega) (by have := HKR.out; omega) R0 HR0.out
  go_region_law (
      (go_simp
       go_at_call 87
       (refine (HCOD.out _).mono ?_)
       rintro e wc ⟨rfl, hbc⟩
       have HMC : Hid (MapSt W wc W.heap.size mb _) := Lib.hid (mapSt_below HM ((Below.refl _ _).drew.trans hbc))
       have hlk2 := run_look HMC.out kind (by have := HKR.out; omega) (by have := HKR.out; omega) R0 HR0.out
       have HBC : Hid (Below W.heap.size W wc) := by
         obtain ⟨-, hbel, -, hsz⟩ := HMC.out
         exact hbel
       clear hbc))
  all_goals
    dsimp only [Act.put, List.getElem_toArray, List.getElem_cons_succ, List.getElem_cons_zero, List.getElem_cons]
    go_frame
    obtain ⟨wq, hwq⟩ : ∃ wq, wq = wc.alloc (.cells #[.int .i64 R0, .int .i64 R1] 3) := ⟨_, rfl⟩
    try rw [← hwq]
    have hgc : Blk wq wc.heap.size 3 [.int .i64 R0, .int .i64 R1] := by rw [hwq]; exact Blk.new wc _ [_, _]
    have hbq : Below W.heap.size W wq := by rw [hwq]; exact HBC.out.alloc HBC.out.size _
    have hgf : Blk wq gf 77 [.int .u64 st, .bool sh] := HBF.out.below hbq HBF.out.lt
    have hwc : W.heap.size ≤ wc.heap.size := HBC.out.size
    obtain ⟨gc, hgcE⟩ : ∃ gc, wc.heap.size = gc := ⟨_, rfl⟩
    rw [hgcE] at hgc hwc ⊢
    have hccR : ∀ m, m < 2 → (if m = 0 then R0 else R1) = cc kind m := fun m hm => by unfold cc sho; rw [HR0.out, HR1.out]
    have HGC := Lib.hid hgc
    have HBQ := Lib.hid hbq
    have HGF := Lib.hid hgf
    have HCC := Lib.hid hccR
    clear hgc hbq hgf hwq hlk1 hlk2 HMC HM HBC hgcE hccR
    go_wp2
    go_loopw [8, 27] (fun v i wr => ∃ (m k1 : Nat) (Av : Option Addr) (cv : Nat), m ≤ 2 ∧ i = .int .i64 m ∧ v = .slice Av k1 cv ∧ k1 ≤ 2 ∧ Hid (∃ L st', k1 = L.length ∧ PcsW wr wq.heap.size L (.slice Av k1 cv) ∧ ElmG kind K n (140000 * sumV (fun i => cntK (K i)) n) m L ∧ Blk wr gf 77 [.int .u64 st', .bool sh] ∧ wq.grownBy wr (some gf))) (fun _ i _ => 2 - (intOf i).toNat)
    case atStart => exact ⟨0, 0, none, 0, by omega, rfl, rfl, by omega, [], st, rfl, PcsW.nil _ _, ⟨by simp, fun h => absurd h (by omega), fun p hp => by cases hp⟩, HGF.out, grownV_refl _ _⟩
    case round =>
      obtain ⟨m, k1, Av, cv, hm, rfl, rfl, hk1, hrest⟩ := hrel
      obtain ⟨L, st4, hkL, hpw, helm, hb4, hg4⟩ := hrest.out
      have hgc4 := HGC.out.grown hg4 (fun e => HGC.out.ne_ HGF.out (by decide) (by injection e))
      have HKL := Lib.hid hkL
      have HPW := Lib.hid hpw
      have HELM := Lib.hid helm
      have HB4 := Lib.hid hb4
      have HG4 := Lib.hid hg4
      have HGC4 := Lib.hid hgc4
      have hzq : W.heap.size ≤ wr.heap.size := Nat.le_trans HBQ.out.size hg4.size
      have hzq2 : wq.heap.size ≤ wr.heap.size := hg4.size
      clear hrest hkL hpw helm hb4 hg4 hgc4
      by_cases hm2 : m < 2
      case neg =>
        obtain rfl : m = 2 := by omega
        go_wp2
        go_ret
        exact ⟨_, L, st4, rfl, HELM.out, HPW.out.lower HBQ.out.size, HB4.out, grownV_trans (grown_of_below HBQ.out _) HG4.out⟩
      obtain ⟨wm, hwm⟩ : ∃ wm, wm = wr := ⟨_, rfl⟩
      subst hwm
      obtain ⟨code, hcode⟩ : ∃ code, cc kind m = code := ⟨_, rfl⟩
      have hcell : wm.cell? ⟨gc, m, none⟩ = some (.int .i64 code) := by
        rw [HGC4.out.cell m, ← hcode, ← HCC.out m hm2]
        rcases (show m = 0 ∨ m = 1 by omega) with rfl | rfl <;> rfl
      have hcr : 0 ≤ code ∧ code ≤ 255 := by
        rw [← hcode]
        unfold cc
        split
        · have := sho_in kind; omega
        · exact look_in codL 255 (by omega) (by decide) kind
      have hmd : decide ((m : Int) < 2) = true := decide_eq_true (by omega)
      have HCODE := Lib.hid hcode
      obtain ⟨ball, hball⟩ : ∃ b : Bool, (code != 0) = b := ⟨_, rfl⟩
      have HBALL := Lib.hid hball
      clear hcode
      go_wp2
      go_loopw [11, 12, 35] (fun vd va i wx => ∃ (j N : Nat) (Ad : Option Addr) (cd : Nat) (b : Bool), j ≤ n ∧ i = .int .i64 j ∧ va = .bool b ∧ vd = .slice Ad N cd ∧ N ≤ 70000000 ∧ Hid (∃ d st', N = d.length ∧ IsB d ∧ d.length ≤ 140000 * sumV (fun i => cntK (K i)) j ∧ wx.ownsRow wm.heap.size 5 1 (.slice Ad N cd) N (bs d) ∧ Blk wx gf 77 [.int .u64 st', .bool sh] ∧ wm.grownBy wx (some gf) ∧ DOK K kind code j d b)) (fun _ _ i _ => n - (intOf i).toNat)
      case atStart => exact ⟨0, 0, none, 0, ball, Nat.zero_le _, rfl, rfl, rfl, by omega, [], st4, rfl, isB_nil, by simp, ⟨by simp [bs], .inl ⟨rfl, rfl⟩⟩, HB4.out, grownV_refl _ _, ⟨fun h => ⟨by have := HBALL.out; rw [h] at this; simpa using this, fun _ => [], rfl, fun i hi => absurd hi (by omega)⟩, fun _ h => by have := HBALL.out; rw [← this]; simpa using h⟩⟩
      case round =>
        obtain ⟨j, N, Ad, cd, b, hj, rfl, rfl, rfl, hNb, hrest⟩ := hrel
        obtain ⟨d, st5, hN, hdB, hdl, hown, hb5, hg5, hdok⟩ := hrest.out
        obtain ⟨wk, hwk⟩ : ∃ wk, wk = wr := ⟨_, rfl⟩
        subst hwk
        have hz5 : wm.heap.size ≤ wk.heap.size := hg5.size
        have HD := Lib.hid (And.intro hN (And.intro hdB (And.intro hdl hdok)))
        have HOWN := Lib.hid hown
        have HB5 := Lib.hid hb5
        have HG5 := Lib.hid hg5
        clear hrest hN hdB hdl hown hb5 hg5 hdok
        by_cases hlt : j < n
        case neg =>
          obtain rfl : j = n := by omega
          have hpk := HPW.out.keptg HB4.out (by decide) (by decide) HG5.out
          have hgk := grownV_trans HG4.out HG5.out
          have hob := OwnB.of_own (own_lowerH HOWN.out (show wq.heap.size ≤ wm.heap.size by omega)) HD.out.1.symm
          have hone := pcsW_one wk wq.heap.size (code, d) (.slice Ad N cd) (by omega) hob
          have hpka := hpk.below ((Below.refl _ wk).alloc (Nat.le_refl _) (.cells #[.int .i64 code, .slice Ad N cd] 118))
          have HPK := Lib.hid hpk
          have HGK := Lib.hid hgk
          have HONE := Lib.hid hone
          have HPKA := Lib.hid hpka
          clear hpk hgk hob hone hpka
          have hk1m : k1 ≤ m := by have h := HELM.out.1; rw [← HKL.out] at h; exact h
          cases b
          · go_wp2
            go_roundw
            case rel =>
              refine ⟨m + 1, k1, Av, cv, by omega, by go_num, rfl, hk1, L, st5, HKL.out, HPK.out, ⟨by have := HELM.out.1; omega, fun h2 => ?_, HELM.out.2.2⟩, HB5.out, HGK.out⟩
              have hcc : code = cod kind := by rw [← HCODE.out]; unfold cc; rw [if_neg (by omega)]
              exact absurd (HD.out.2.2.2.2 hcc (by rw [hcc]; exact cod_pos HKR.out)) (by simp)
            case measure => simp [intOf]; omega
          · go_wp2_with (
              (at_builtin)
              go_must (
                (refine wpList_append_P rfl (.tmp 67) (.tmp 71) (B := wq.heap.size) (L := L) (M := [(code, d)]) (v := .slice Av k1 cv) rfl rfl rfl HPKA.out HONE.out (by simp; omega) (by rw [← HKL.out]; simp; omega) ?_)
                intro A8 c8 w8 HP8 HG8))
            have hro : ∀ jb, (Value.slice Av k1 cv).ownBlock = some jb → wq.heap.size ≤ jb := fun jb hjb => by
              obtain ⟨Ao, co, So, hvo, hSo, hoo, hdo⟩ := HPKA.out
              exact (hoo.lt jb hjb).1
            have hrf : some gf ≠ (Value.slice Av k1 cv).ownBlock := fun e => by
              obtain ⟨Ao, co, So, hvo, hSo, hoo, hdo⟩ := HPK.out
              exact own_neH hoo HB5.out (by decide) e.symm
            have hb8 : Blk w8 gf 77 [.int .u64 st5, .bool sh] := (HB5.out.alloc _).grown HG8.out hrf
            have HB8 := Lib.hid hb8
            have HG8F : Hid (wq.grownBy w8 (some gf)) := grownV_fresh (grownV_trans HGK.out (World.grownBy_alloc _ _ _)) HG8.out hro
            clear hro hrf hb8
            go_roundw
            case rel =>
              refine ⟨m + 1, k1 + 1, A8, c8, by omega, by go_num, by simp [HKL.out], by omega, L ++ [(code, d)], st5, by rw [List.length_append, HKL.out]; rfl, by rw [HKL.out]; exact HP8.out, ⟨by rw [List.length_append]; have := HELM.out.1; simp; omega, fun _ => by simp, fun p hp => ?_⟩, HB8.out, HG8F.out⟩
              rcases List.mem_append.1 hp with h | h
              · exact HELM.out.2.2 p h
              · rw [List.mem_singleton.1 h]
                obtain ⟨hc0, hel⟩ := HD.out.2.2.2.1 rfl
                refine ⟨hc0, ?_, HD.out.2.1, HD.out.2.2.1, hel⟩
                rw [← HCODE.out]
                unfold cc
                split
                · exact .inl rfl
                · exact .inr rfl
            case measure => simp [intOf]; omega
        obtain ⟨g, p, hA, hgB, hk⟩ := HK0.out (show 0 < n by omega)
        obtain ⟨Ai, ci, hva, htk⟩ := hk j hlt
        have hgr : W.grownBy wk (some gf) := grownV_trans (grown_of_below HBQ.out _) (grownV_trans HG4.out HG5.out)
        have hbel : Below B W wk := belowV hgr (fun j hj => by injection hj with hj; omega) hB
        have hva2 := hva.keep (W' := wk) (fun q => hbel.cell (p := ⟨g, q, none⟩) hgB)
        obtain ⟨d0, d1, d2, d3, d4, d5⟩ := hva2
        have hBw : B ≤ wk.heap.size := by omega
        have hTn : K j ≠ .nil := fun e => by rw [e] at htk; exact htk
        obtain ⟨w2, hw2⟩ : ∃ w2, w2 = wk.alloc (.cells #[.int .i64 (K j).k, .int .u64 (K j).u, .string (K j).s, .slice (Ai false) ((K j).n false) (ci false), .int .i64 (K j).o, .slice none 0 0] 25) := ⟨_, rfl⟩
        have hq2 : Blk w2 wk.heap.size 25 [.int .i64 (K j).k, .int .u64 (K j).u, .string (K j).s, .slice (Ai false) ((K j).n false) (ci false), .int .i64 (K j).o, .slice none 0 0] := by rw [hw2]; exact Blk.new wk 25 [.int .i64 (K j).k, .int .u64 (K j).u, .string (K j).s, .slice (Ai false) ((K j).n false) (ci false), .int .i64 (K j).o, .slice none 0 0]
        have hbr2 : Below wk.heap.size wk w2 := by rw [hw2]; exact (Below.refl _ wk).alloc (Nat.le_refl _) _
        have hz2 : w2.heap.size = wk.heap.size + 1 := by rw [hw2]; simp
        have hcall := HIH.out j hlt w2 st5 (bareA Ai none) (bareA ci 0) (TV.bare (TV.below (hbel.trans (hbr2.mono hBw)) _ _ _ htk)) (by omega) (HB5.out.below hbr2 HB5.out.lt)
        rw [bare_vV _ _ _ hTn] at hcall
        have hkj := HKD.out j hlt
        have hsum : sumV (fun i => cntK (K i)) (j + 1) = sumV (fun i => cntK (K i)) j + cntK (K j) := rfl
        have hsle := sumV_le (fun i => cntK (K i)) (show j + 1 ≤ n by omega)
        have hcb : cntK (K j).bare = cntK (K j) := by cases hKj : K j with
          | nil => exact absurd hKj hTn
          | mk k u s o n f => rfl
        have hkb : (K j).bare.k = (K j).k := by cases hKj : K j with
          | nil => rfl
          | mk k u s o n f => rfl
        have hxb : ∀ L, PcsX (K j).bare L → PcsX (K j) L := fun L h => by cases hKj : K j with
          | nil => exact absurd hKj hTn
          | mk k u s o n f => rw [hKj] at h; exact h
        subst hA
        have HC := Lib.hid hcall
        have HW2 := Lib.hid hw2
        have HBR2 := Lib.hid hbr2
        have HQ2 := Lib.hid hq2
        have HZ2 := Lib.hid hz2
        have HSUM := Lib.hid (And.intro hsum hsle)
        have HKJ := Lib.hid (And.intro hkj (And.intro hcb (And.intro hkb hxb)))
        clear hk hva htk hcall hsum hsle hbel hw2 hbr2 hq2 hz2 hkj hcb hkb hxb hgr hTn
        generalize hTE : K j = T at *
        have HTE := Lib.hid hTE
        clear hTE
        go_wp2_with (
          (go_at_call 64)
          go_must (
            (rw [← HW2.out])
            refine HC.out.mono ?_
            rintro e w5 ⟨v5, L5, st6, rfl, hpg, hpw5, hb6, hg6⟩
            obtain ⟨A5, c5, S5, rfl, hS5, hrow5, hdat5⟩ := hpw5
            obtain ⟨Q, hQ⟩ : ∃ Q, Q = L5.length := ⟨_, rfl⟩
            rw [← hQ] at hrow5 ⊢
            have hq3 : Q ≤ 3 := by rw [hQ]; exact hpg.2.1
            have hg26 : wm.grownBy w5 (some gf) := grownV_trans (grownV_trans HG5.out (grown_of_below HBR2.out _)) hg6
            have hown5 := (own_belowH HOWN.out HBR2.out).kept hg6 (.inr (own_neH (own_belowH HOWN.out HBR2.out) (HB5.out.below HBR2.out HB5.out.lt) (by decide)))
            have hz6 := hg6.size
            have HPG := Lib.hid hpg
            have HS5 := Lib.hid hS5
            have HQL := Lib.hid hQ
            have HDAT := Lib.hid hdat5
            have HST3 : Hid (∃ d3, N = d3.length ∧ w5.ownsRow wm.heap.size 5 1 (.slice Ad N cd) N (bs d3) ∧ w5.ownsRow w2.heap.size 118 2 (.slice A5 Q c5) Q (rowP L5 S5) ∧ Blk w5 gf 77 [.int .u64 st6, .bool sh] ∧ wm.grownBy w5 (some gf) ∧ (false = false → d3 = d ∧ Below w5.heap.size w5 w5 ∧ ∀ i p, i < 0 → L5[i]? = some p → p.1 ≠ code) ∧ (false = true → ∃ p ∈ L5, p.1 = code ∧ d3 = d ++ p.2)) := ⟨d, HD.out.1, hown5, hrow5, hb6, hg26, fun _ => ⟨rfl, Below.refl _ _, fun i p hi => absurd hi (by omega)⟩, fun h => by cases h⟩
            clear hpg hS5 hQ hdat5 hrow5 hown5 hb6 hg6 hg26))
        go_loopw [11, 15, 44] (fun vd vf i wx => ∃ (q N3 : Nat) (Ad3 : Option Addr) (cd3 : Nat) (b3 : Bool), q ≤ Q ∧ i = .int .i64 q ∧ vf = .bool b3 ∧ vd = .slice Ad3 N3 cd3 ∧ N3 ≤ 70000000 ∧ Hid (∃ d3, N3 = d3.length ∧ wx.ownsRow wm.heap.size 5 1 (.slice Ad3 N3 cd3) N3 (bs d3) ∧ wx.ownsRow w2.heap.size 118 2 (.slice A5 Q c5) Q (rowP L5 S5) ∧ Blk wx gf 77 [.int .u64 st6, .bool sh] ∧ wm.grownBy wx (some gf) ∧ (b3 = false → d3 = d ∧ Below w5.heap.size w5 wx ∧ ∀ i p, i < q → L5[i]? = some p → p.1 ≠ code) ∧ (b3 = true → ∃ p ∈ L5, p.1 = code ∧ d3 = d ++ p.2))) (fun _ _ i _ => Q - (intOf i).toNat)
        case atStart =>
          obtain ⟨d3, e1, e2, e3, e4, e5, e6, e7⟩ := HST3.out
          exact ⟨0, N, Ad, cd, false, Nat.zero_le _, rfl, rfl, rfl, hNb, d3, e1, e2, e3, e4, e5, fun _ => e6 (by trivial), fun h => by cases h⟩
        case round =>
          obtain ⟨q, N3, Ad3, cd3, b3, hq, rfl, rfl, rfl, hN3b, hrest⟩ := hrel
          obtain ⟨d3, hN3, hown3, hrow3, hb3, hg3, hff, htt⟩ := hrest.out
          have hz3 := hg3.size
          have HD3 := Lib.hid hN3
          have HOWN3 := Lib.hid hown3
          have HROW3 := Lib.hid hrow3
          have HB3 := Lib.hid hb3
          have HG3 := Lib.hid hg3
          have HFF := Lib.hid hff
          have HTT := Lib.hid htt
          clear hrest hN3 hown3 hrow3 hb3 hg3 hff htt HST3
          by_cases hq2 : q < Q
          case neg =>
            obtain rfl : q = Q := by omega
            have hX : PcsX (K j) L5 := by
              have := HKJ.out.2.2.2 L5 HPG.out.2.2.2.1
              rw [← HTE.out] at this
              exact this
            have hyes : b3 = true → ∃ x, (code, x) ∈ L5 ∧ d3 = d ++ x ∧ IsB x ∧ x.length + 10 ≤ 140000 * cntK T := fun hb => by
              obtain ⟨p, hp, hpc, hd3⟩ := HTT.out hb
              have hpp := HPG.out.2.2.1 p hp
              have hmem : (code, p.2) ∈ L5 := by rw [← hpc]; exact hp
              refine ⟨p.2, hmem, hd3, hpp.2.1, ?_⟩
              rw [← HKJ.out.2.1]
              exact hpp.2.2
            have hnob : code = cod kind → b3 = true := fun hcod => by
              rcases hb3 : b3 with _ | _
              · exfalso
                obtain ⟨p, hp, hpk⟩ := HPG.out.1
                obtain ⟨i, hi, hip⟩ := List.mem_iff_getElem.1 hp
                refine (HFF.out hb3).2.2 i p (by rw [HQL.out]; exact hi) (by rw [List.getElem?_eq_getElem hi, hip]) ?_
                rw [hpk, hcod, HKJ.out.2.2.1, HKJ.out.1]
              · rfl
            have hBl : IsB d3 ∧ d3.length ≤ 140000 * sumV (fun i => cntK (K i)) (j + 1) := by
              have h3 := HSUM.out.1
              have h2 := HD.out.2.2.1
              rcases hb3 : b3 with _ | _
              · rw [(HFF.out hb3).1]
                exact ⟨HD.out.2.1, by omega⟩
              · obtain ⟨x, _, hd3, hxB, hxl⟩ := hyes hb3
                rw [hd3, List.length_append]
                exact ⟨isB_append HD.out.2.1 hxB, by omega⟩
            have HE := Lib.hid (And.intro hX (And.intro hyes (And.intro hnob hBl)))
            clear hX hyes hnob hBl
            cases b
            · go_wp2
              go_roundw
              case rel => exact ⟨j + 1, N3, Ad3, cd3, false, by omega, by go_num, rfl, rfl, hN3b, d3, st6, HD3.out, HE.out.2.2.2.1, HE.out.2.2.2.2, HOWN3.out, HB3.out, HG3.out, ⟨(by intro h; cases h), fun h1 h2 => absurd (HD.out.2.2.2.2 h1 h2) (by simp)⟩⟩
              case measure => simp [intOf]; omega
            · go_wp2
              go_roundw
              case rel => exact ⟨j + 1, N3, Ad3, cd3, b3, by omega, by go_num, rfl, rfl, hN3b, d3, st6, HD3.out, HE.out.2.2.2.1, HE.out.2.2.2.2, HOWN3.out, HB3.out, HG3.out, ⟨fun hb => by
                obtain ⟨x, hx, hd3, _⟩ := HE.out.2.1 hb
                obtain ⟨hc0, hel⟩ := HD.out.2.2.2.1 rfl
                exact ⟨hc0, by rw [hd3]; exact elemG_more hel HE.out.1 hx⟩, fun h1 _ => HE.out.2.2.1 h1⟩⟩
              case measure => simp [intOf]; omega
          obtain ⟨g5, hA5⟩ : ∃ g5, A5 = some ⟨g5, 0, none⟩ := by
            rcases HROW3.out.2 with ⟨hv, h0⟩ | ⟨g, cap, cur, hv, _⟩
            · omega
            · injection hv with hv
              exact ⟨g, hv⟩
          subst hA5
          have hqi : q < L5.length := by rw [← HQL.out]; exact hq2
          have hpq : L5[q]? = some L5[q] := List.getElem?_eq_getElem hqi
          obtain ⟨u, hu⟩ : ∃ u, S5[q]? = some u := ⟨S5[q]'(by rw [HS5.out]; exact hqi), List.getElem?_eq_getElem _⟩
          obtain ⟨Adp, cdp, hue, hod⟩ := HDAT.out q _ u hpq hu
          obtain ⟨r1, r2⟩ := rowP_get L5 S5 q _ u hpq hu
          subst hue
          have hmem : L5[q] ∈ L5 := List.getElem_mem hqi
          obtain ⟨pc, hpc⟩ : ∃ pc, L5[q] = pc := ⟨_, rfl⟩
          rw [hpc] at r1 r2 hod hmem hpq
          obtain ⟨D, hD⟩ : ∃ D, pc.2.length = D := ⟨_, rfl⟩
          obtain ⟨cp, hcp⟩ : ∃ cp, pc.1 = cp := ⟨_, rfl⟩
          rw [hD] at r2
          rw [hcp] at r1
          have hrd := Reads.of_own HROW3.out
          obtain ⟨ad, had, hlt4, hcell4⟩ := hrd.2 (by omega)
          cases had
          have y0 := hcell4 _ _ r1
          have y1 := hcell4 _ _ r2
          rw [add_lit, Nat.zero_add] at y0 y1
          have hDb := HPG.out.2.2.1 _ hmem
          have hDl : D + 10 ≤ 140000 * cntK T := by rw [← hD, ← HKJ.out.2.1]; exact hDb.2.2
          have HPQ := Lib.hid hpq
          have HMEM := Lib.hid hmem
          have HDE := Lib.hid hD
          have HCP := Lib.hid hcp
          have HOD := Lib.hid hod
          have hqc : (q : Int) < (Q : Int) := by omega
          clear hqi hpq hu hod r1 r2 hmem hpc hD hcp hrd hcell4 hDb
          obtain ⟨w6, hw6⟩ : ∃ w6, w6 = wr.alloc (.cells #[.int .i64 cp, .slice Adp D cdp] 118) := ⟨_, rfl⟩
          have hbr6 : Below wr.heap.size wr w6 := by rw [hw6]; exact (Below.refl _ wr).alloc (Nat.le_refl _) _
          have HOWN6 := Lib.hid (own_belowH HOWN3.out hbr6)
          have HROW6 := Lib.hid (own_belowH HROW3.out hbr6)
          have HB6 := Lib.hid (HB3.out.below hbr6 HB3.out.lt)
          have HG6 : Hid (wm.grownBy w6 (some gf)) := grownV_trans HG3.out (grown_of_below hbr6 _)
          have HBR6 := Lib.hid hbr6
          have HW6 := Lib.hid hw6
          have hz36 := hbr6.size
          clear hw6 hbr6
          by_cases hce : cp = code
          · have hceb : (cp == code) = true := by rw [hce]; simp
            have HCE := Lib.hid hce
            clear hce
            cases b3
            · have hff := HFF.out (by trivial)
              obtain ⟨hd3, hb5r, hno⟩ := hff
              have hod6 := (HOD.out.below hb5r).below HBR6.out
              have hrd6 := hod6.reads
              rw [HDE.out] at hrd6
              have hsmall : N3 + D ≤ 70000000 := by
                have h1 := HD3.out
                rw [hd3] at h1
                have h2 := HD.out.2.2.1
                have h3 := HSUM.out.1
                have h4 := HSUM.out.2
                have h5 := HCT.out
                omega
              have HRD6 := Lib.hid hrd6
              have HD3E := Lib.hid hd3
              clear hd3 hb5r hno hrd6 hod6
              have hwm6 : wm.heap.size ≤ w6.heap.size := by omega
              go_wp2_with (
                (at_builtin)
                go_must (
                  (rw [← HW6.out])
                  refine wpList_append_any _ rfl (.tmp 56) (.tmp 58) 26 rfl wm.heap.size 5 i0 _ 1 1 Tryd.underlying26 hi0 hiz0 hiz1 hiz2 rfl (by omega) (.slice Ad3 N3 cd3) N3 _ rfl HOWN6.out w6.heap.size Adp D cdp (bs pc.2) rfl HRD6.out (bs_one _) (by simp only [maxLen]; omega) (by omega) hwm6 ?_
                  intro v1 w7 hown7 hg7 hat7
                  obtain ⟨A7, c7, rfl⟩ := own_formP hown7
                  rw [← bs_append] at hown7
                  have hb7 := HB6.out.grown hg7 (fun e => own_neH HOWN6.out HB6.out (by decide) e.symm)
                  have hrow7 := HROW6.out.kept hg7 (own_neo HROW6.out HOWN6.out (by decide))
                  have hgr7 := grownV_fresh HG6.out hg7 (fun j hj => (HOWN6.out.lt j hj).1)
                  have HO7 := Lib.hid hown7
                  have HB7 := Lib.hid hb7
                  have HROW7 := Lib.hid hrow7
                  have HG7 := Lib.hid hgr7
                  clear hown7 hg7 hat7 hb7 hrow7 hgr7))
              go_roundw
              case rel => exact ⟨q + 1, N3 + D, A7, c7, true, by omega, by go_num, rfl, rfl, hsmall, d3 ++ pc.2, by rw [List.length_append, HDE.out, HD3.out], HO7.out, HROW7.out, HB7.out, HG7.out, (by intro h; cases h), fun _ => ⟨pc, HMEM.out, by rw [HCP.out, HCE.out], by rw [HD3E.out]⟩⟩
              case measure => simp [intOf]; omega
            · go_wp2
              rw [← HW6.out]
              go_roundw
              case rel => exact ⟨q + 1, N3, Ad3, cd3, true, by omega, by go_num, rfl, rfl, hN3b, d3, HD3.out, HOWN6.out, HROW6.out, HB6.out, HG6.out, (by intro h; cases h), fun _ => HTT.out (by trivial)⟩
              case measure => simp [intOf]; omega
          · have hceb : (cp == code) = false := by rw [beq_eq_false_iff_ne]; exact hce
            have HNE := Lib.hid hce
            clear hce
            go_wp2
            rw [← HW6.out]
            go_roundw
            case rel => exact ⟨q + 1, N3, Ad3, cd3, b3, by omega, by go_num, rfl, rfl, hN3b, d3, HD3.out, HOWN6.out, HROW6.out, HB6.out, HG6.out, fun hb => ⟨(HFF.out hb).1, (HFF.out hb).2.1.trans (HBR6.out.mono (HFF.out hb).2.1.size), fun i p hi hp => by
              by_cases hiq : i = q
              · subst hiq
                have := HPQ.out
                rw [this] at hp
                injection hp with hp
                rw [← hp, HCP.out]
                exact HNE.out
              · exact (HFF.out hb).2.2 i p (by omega) hp⟩, HTT.out⟩
            case measure => simp [intOf]; omega
end Go.Proofs.YtjjhckbidcdkcaaDoor
