/- impl.taking of integers. PRINTED by wip/genrn.py. -/
import Derived.Test.YtpfjmnaognlnkaaDoorRf
import Derived.Test.YtpfjmnaognlnkaaDoorRm
namespace Go.Proofs.YtpfjmnaognlnkaaDoor
open Go.RowKit
set_option linter.unusedVariables false

theorem infoi16N : (Tryd.prog.info? 24).map (fun i => (i.zero, i.size, i.bytes)) = some (some (.int .i16 0), 1, 2) := by kernel_rfl

set_option maxHeartbeats 2000000 in
set_option maxRecDepth 100000 in
theorem StreamGetInt16_clo (W : World) (B gr : Nat) (x : Int) (e : List Int) (hf : FrmReadInt16 x e) (tot : List Int) (h : RS W B gr (e ++ tot) W) :
    Calls Tryd.prog 12 #[.pointer (some ⟨gr, 0, none⟩)] W (fun e W' => e = .returned (.tuple #[Value.int .i16 x, .nilIface]) ∧ RS W B gr tot W') := by
  have H := Lib.hid h
  have HF := Lib.hid hf
  clear h hf
  go_enter Tryd.func12, Tryd.ntmps12
  go_wp2_with (
    (go_at_call 13)
    go_must (
      (refine (ReadInt16_calls W _ B gr x e HF.out tot H.out).mono ?_)
      rintro e w1 ⟨rfl, hr⟩
      have HR := Lib.hid hr
      clear hr))
  go_ret2
  exact ⟨rfl, HR.out⟩

set_option maxHeartbeats 4000000 in
set_option maxRecDepth 100000 in
theorem StreamGetInt16_taking (w : World) (A : Option Addr) (c sz : Nat) (ch : Int) (l : List Int) (ds : List (List Int)) (d : List Int) (hdd : d = ds.flatten) (hd : Frms FrmReadInt16 l ds) (h : Reads w w.heap.size 1 A d.length (bs d)) (h0 : 18 ≤ sz) (h1 : sz ≤ 65536) (hc0 : 1 ≤ ch) (hc1 : ch ≤ 65536) (hl : l.length ≤ 100) (hdl : d.length ≤ 1000000) :
    Calls Tryd.prog 11 #[.slice A d.length c, .int .i64 l.length, .int .i64 sz, .int .i64 ch, .func (.func 12) #[] #[]] w (Got w (l.map fun x => Value.int .i16 x)) := by
  obtain ⟨i0, hi0, hz0, hz1, hz2⟩ := info_parts infoi16N
  have H := Lib.hid h
  have HD := Lib.hid hd
  have HDD := Lib.hid hdd
  have hms : min (sz : Int) 65536 = sz := by omega
  have hml : min (l.length : Int) 65536 = l.length := by omega
  clear h hd hdd
  go_enter Tryd.func11, Tryd.ntmps11
  go_wp2_with (
    (go_at_call 18)
    go_must (
      (refine (reading_calls w A c d sz ch H.out (by omega) (by omega) h1 hc0 hc1).mono ?_)
      rintro e w1 ⟨gr, rfl, hr⟩
      rw [HDD.out] at hr
      have HR := Lib.hid hr
      clear hr hms))
  clear hml
  go_loopw [13, 24] (fun v i wr => ∃ (k : Nat) (A' : Option Addr) (c' : Nat), k ≤ l.length ∧ i = .int .i64 k ∧ v = .slice A' k c' ∧ Hid (RS w w.heap.size gr (ds.drop k).flatten wr ∧ wr.ownsRow w.heap.size 24 1 (.slice A' k c') k ((l.take k).map fun x => Value.int .i16 x))) (fun _ i _ => l.length - (intOf i).toNat)
  case atStart => exact ⟨0, none, 0, Nat.zero_le _, rfl, rfl, HR.out, by simp, .inl ⟨rfl, rfl⟩⟩
  case round =>
    obtain ⟨k, A', c', hk, rfl, rfl, hrest⟩ := hrel
    by_cases hlt : k < l.length
    · obtain ⟨e, he, hfe⟩ := HD.out.at_ k hlt
      have HSN := Lib.hid (take_snocG l (fun x => Value.int .i16 x) k hlt)
      generalize l[k] = x at *
      have HFE := Lib.hid hfe
      have hrs : RS wr w.heap.size gr (e ++ (ds.drop (k + 1)).flatten) wr := by rw [← he]; exact hrest.out.1.self
      have HRS := Lib.hid hrs
      clear he hrs hfe
      go_wp2_with (first
        | (go_at_call 12
           go_must (
             (refine (StreamGetInt16_clo wr w.heap.size gr x e HFE.out _ HRS.out).mono ?_)
             rintro e2 w2 ⟨rfl, hr2⟩
             have hown := own_kt hrest.out.2 hr2.kt (by decide) (by decide) (by decide)
             have hbel2 := hrest.out.1.bel
             have hr3 := hr2.base hbel2 hrest.out.1.kt
             have hwz : w.heap.size ≤ w2.heap.size := Nat.le_trans hbel2.size hr2.bel.size
             have HR3 := Lib.hid hr3
             have HOWN := Lib.hid hown
             clear hr2 hown hbel2 hr3))
        | ((at_builtin)
           go_must (
             (refine wpList_append_any _ rfl (.tmp 34) (.tmp 36) 22 rfl w.heap.size 24 i0 _ 1 2 Tryd.underlying22 hi0 hz0 hz1 hz2 rfl (by omega) (.slice A' k c') k _ rfl (HOWN.out.alloc _) (w2.heap.size + 1) _ 1 1 [Value.int .i16 x] rfl (reads_one1 _ _ _) (by simp [Value.oneCell']) (by simp only [maxLen]; omega) (by omega) (by simp; omega) ?_)
             intro v1 w3 hown1 hg1 hat1
             obtain ⟨A1', c1', rfl, _, _⟩ := own_formR hown1
             have HO1 := Lib.hid hown1
             have HG1 := Lib.hid hg1
             clear hown1 hg1 hat1)))
      go_roundw
      case rel =>
        refine ⟨k + 1, A1', c1', by omega, by go_num, rfl, ?_, ?_⟩
        · have hb := own_blkR HOWN.out
          exact (HR3.out.grown (grown_alloc HG1.out) 24 (by decide) (by decide) (by decide) (by decide) hb).base (HR3.out.bel.grown (grown_alloc HG1.out) hwz (fun r hr => (hb r hr).1)) (HR3.out.kt.grown_far (grown_alloc HG1.out) (fun r hr => (hb r hr).1))
        · rw [HSN.out]; exact HO1.out
      case measure => simp [intOf]; omega
    · obtain rfl : k = l.length := by omega
      go_wp2
      go_ret2
      have hown := hrest.out.2
      rw [List.take_length] at hown
      obtain ⟨A9, c9, hv9, h8, h9⟩ := own_formR hown
      injection hv9 with e1 e2 e3
      subst e3
      have hrd := Reads.of_own hown
      refine ⟨A', c', by simp, ?_, by simpa using h8, h9, hrest.out.1.bel⟩
      simpa using hrd

set_option maxHeartbeats 2000000 in
set_option maxRecDepth 100000 in
theorem StreamGetInt16_calls (w : World) (A : Option Addr) (c sz : Nat) (ch : Int) (l : List Int) (ds : List (List Int)) (d : List Int) (hdd : d = ds.flatten) (hd : Frms FrmReadInt16 l ds) (h : Reads w w.heap.size 1 A d.length (bs d)) (h0 : 18 ≤ sz) (h1 : sz ≤ 65536) (hc0 : 1 ≤ ch) (hc1 : ch ≤ 65536) (hl : l.length ≤ 100) (hdl : d.length ≤ 1000000) :
    Calls Tryd.prog 5 #[.slice A d.length c, .int .i64 l.length, .int .i64 sz, .int .i64 ch] w (Got w (l.map fun x => Value.int .i16 x)) := by
  have H := Lib.hid h
  have HD := Lib.hid hd
  have HDD := Lib.hid hdd
  clear h hd hdd
  go_enter Tryd.func5, Tryd.ntmps5
  go_wp2_with (
    (go_at_call 11)
    go_must (
      (refine (StreamGetInt16_taking w A c sz ch l ds d HDD.out HD.out H.out h0 h1 hc0 hc1 hl hdl).mono ?_)
      rintro e w1 ⟨A1, c1, rfl, hg⟩
      have HG := Lib.hid hg
      clear hg))
  go_ret2
  exact ⟨A1, c1, by simp, HG.out⟩

theorem infou16N : (Tryd.prog.info? 36).map (fun i => (i.zero, i.size, i.bytes)) = some (some (.int .u16 0), 1, 2) := by kernel_rfl

set_option maxHeartbeats 2000000 in
set_option maxRecDepth 100000 in
theorem StreamGetUint16_clo (W : World) (B gr : Nat) (x : Int) (e : List Int) (hf : FrmReadUint16 x e) (tot : List Int) (h : RS W B gr (e ++ tot) W) :
    Calls Tryd.prog 16 #[.pointer (some ⟨gr, 0, none⟩)] W (fun e W' => e = .returned (.tuple #[Value.int .u16 x, .nilIface]) ∧ RS W B gr tot W') := by
  have H := Lib.hid h
  have HF := Lib.hid hf
  clear h hf
  go_enter Tryd.func16, Tryd.ntmps16
  go_wp2_with (
    (go_at_call 17)
    go_must (
      (refine (ReadUint16_calls W _ B gr x e HF.out tot H.out).mono ?_)
      rintro e w1 ⟨rfl, hr⟩
      have HR := Lib.hid hr
      clear hr))
  go_ret2
  exact ⟨rfl, HR.out⟩

set_option maxHeartbeats 4000000 in
set_option maxRecDepth 100000 in
theorem StreamGetUint16_taking (w : World) (A : Option Addr) (c sz : Nat) (ch : Int) (l : List Int) (ds : List (List Int)) (d : List Int) (hdd : d = ds.flatten) (hd : Frms FrmReadUint16 l ds) (h : Reads w w.heap.size 1 A d.length (bs d)) (h0 : 18 ≤ sz) (h1 : sz ≤ 65536) (hc0 : 1 ≤ ch) (hc1 : ch ≤ 65536) (hl : l.length ≤ 100) (hdl : d.length ≤ 1000000) :
    Calls Tryd.prog 15 #[.slice A d.length c, .int .i64 l.length, .int .i64 sz, .int .i64 ch, .func (.func 16) #[] #[]] w (Got w (l.map fun x => Value.int .u16 x)) := by
  obtain ⟨i0, hi0, hz0, hz1, hz2⟩ := info_parts infou16N
  have H := Lib.hid h
  have HD := Lib.hid hd
  have HDD := Lib.hid hdd
  have hms : min (sz : Int) 65536 = sz := by omega
  have hml : min (l.length : Int) 65536 = l.length := by omega
  clear h hd hdd
  go_enter Tryd.func15, Tryd.ntmps15
  go_wp2_with (
    (go_at_call 18)
    go_must (
      (refine (reading_calls w A c d sz ch H.out (by omega) (by omega) h1 hc0 hc1).mono ?_)
      rintro e w1 ⟨gr, rfl, hr⟩
      rw [HDD.out] at hr
      have HR := Lib.hid hr
      clear hr hms))
  clear hml
  go_loopw [13, 24] (fun v i wr => ∃ (k : Nat) (A' : Option Addr) (c' : Nat), k ≤ l.length ∧ i = .int .i64 k ∧ v = .slice A' k c' ∧ Hid (RS w w.heap.size gr (ds.drop k).flatten wr ∧ wr.ownsRow w.heap.size 36 1 (.slice A' k c') k ((l.take k).map fun x => Value.int .u16 x))) (fun _ i _ => l.length - (intOf i).toNat)
  case atStart => exact ⟨0, none, 0, Nat.zero_le _, rfl, rfl, HR.out, by simp, .inl ⟨rfl, rfl⟩⟩
  case round =>
    obtain ⟨k, A', c', hk, rfl, rfl, hrest⟩ := hrel
    by_cases hlt : k < l.length
    · obtain ⟨e, he, hfe⟩ := HD.out.at_ k hlt
      have HSN := Lib.hid (take_snocG l (fun x => Value.int .u16 x) k hlt)
      generalize l[k] = x at *
      have HFE := Lib.hid hfe
      have hrs : RS wr w.heap.size gr (e ++ (ds.drop (k + 1)).flatten) wr := by rw [← he]; exact hrest.out.1.self
      have HRS := Lib.hid hrs
      clear he hrs hfe
      go_wp2_with (first
        | (go_at_call 16
           go_must (
             (refine (StreamGetUint16_clo wr w.heap.size gr x e HFE.out _ HRS.out).mono ?_)
             rintro e2 w2 ⟨rfl, hr2⟩
             have hown := own_kt hrest.out.2 hr2.kt (by decide) (by decide) (by decide)
             have hbel2 := hrest.out.1.bel
             have hr3 := hr2.base hbel2 hrest.out.1.kt
             have hwz : w.heap.size ≤ w2.heap.size := Nat.le_trans hbel2.size hr2.bel.size
             have HR3 := Lib.hid hr3
             have HOWN := Lib.hid hown
             clear hr2 hown hbel2 hr3))
        | ((at_builtin)
           go_must (
             (refine wpList_append_any _ rfl (.tmp 34) (.tmp 36) 35 rfl w.heap.size 36 i0 _ 1 2 Tryd.underlying35 hi0 hz0 hz1 hz2 rfl (by omega) (.slice A' k c') k _ rfl (HOWN.out.alloc _) (w2.heap.size + 1) _ 1 1 [Value.int .u16 x] rfl (reads_one1 _ _ _) (by simp [Value.oneCell']) (by simp only [maxLen]; omega) (by omega) (by simp; omega) ?_)
             intro v1 w3 hown1 hg1 hat1
             obtain ⟨A1', c1', rfl, _, _⟩ := own_formR hown1
             have HO1 := Lib.hid hown1
             have HG1 := Lib.hid hg1
             clear hown1 hg1 hat1)))
      go_roundw
      case rel =>
        refine ⟨k + 1, A1', c1', by omega, by go_num, rfl, ?_, ?_⟩
        · have hb := own_blkR HOWN.out
          exact (HR3.out.grown (grown_alloc HG1.out) 36 (by decide) (by decide) (by decide) (by decide) hb).base (HR3.out.bel.grown (grown_alloc HG1.out) hwz (fun r hr => (hb r hr).1)) (HR3.out.kt.grown_far (grown_alloc HG1.out) (fun r hr => (hb r hr).1))
        · rw [HSN.out]; exact HO1.out
      case measure => simp [intOf]; omega
    · obtain rfl : k = l.length := by omega
      go_wp2
      go_ret2
      have hown := hrest.out.2
      rw [List.take_length] at hown
      obtain ⟨A9, c9, hv9, h8, h9⟩ := own_formR hown
      injection hv9 with e1 e2 e3
      subst e3
      have hrd := Reads.of_own hown
      refine ⟨A', c', by simp, ?_, by simpa using h8, h9, hrest.out.1.bel⟩
      simpa using hrd

set_option maxHeartbeats 2000000 in
set_option maxRecDepth 100000 in
theorem StreamGetUint16_calls (w : World) (A : Option Addr) (c sz : Nat) (ch : Int) (l : List Int) (ds : List (List Int)) (d : List Int) (hdd : d = ds.flatten) (hd : Frms FrmReadUint16 l ds) (h : Reads w w.heap.size 1 A d.length (bs d)) (h0 : 18 ≤ sz) (h1 : sz ≤ 65536) (hc0 : 1 ≤ ch) (hc1 : ch ≤ 65536) (hl : l.length ≤ 100) (hdl : d.length ≤ 1000000) :
    Calls Tryd.prog 9 #[.slice A d.length c, .int .i64 l.length, .int .i64 sz, .int .i64 ch] w (Got w (l.map fun x => Value.int .u16 x)) := by
  have H := Lib.hid h
  have HD := Lib.hid hd
  have HDD := Lib.hid hdd
  clear h hd hdd
  go_enter Tryd.func9, Tryd.ntmps9
  go_wp2_with (
    (go_at_call 15)
    go_must (
      (refine (StreamGetUint16_taking w A c sz ch l ds d HDD.out HD.out H.out h0 h1 hc0 hc1 hl hdl).mono ?_)
      rintro e w1 ⟨A1, c1, rfl, hg⟩
      have HG := Lib.hid hg
      clear hg))
  go_ret2
  exact ⟨A1, c1, by simp, HG.out⟩
end Go.Proofs.YtpfjmnaognlnkaaDoor
