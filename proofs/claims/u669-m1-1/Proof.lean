import JvmDerived
import JvmDerived.Pilot.@@N@@Statement
import JvmDerived.Pilot.@@N@@Code
set_option linter.unusedVariables false
set_option linter.unusedSimpArgs false

namespace Jvm.Pilot.@@N@@
open Jvm Jvm.ClassFile Sem Op Lib Jvm.Free Jvm.Stand Jvm.LawKit Jvm.RoadKit Bundle Jvm.Pilot.@@N@@.Jvm.D

def own_low (w : Int64) (i : Int32) : Int32 := if (lcmpW (((w.toUInt64 >>> (((8 : Int32) * i) &&& 0x3f).toInt64.toUInt64).toInt64) &&& (255 : Int64)) (128 : Int64)) < (0 : Int32) then (1 : Int32) else 0
def own_asc (w : Int64) : Int32 := if (lcmpW (w &&& (-9187201950435737472 : Int64)) (0 : Int64)) = (0 : Int32) then (1 : Int32) else 0
def own_ch8 (w : Int64) : Int32 := (1 : Int32)
def own_ch7 (w : Int64) : Int32 := if own_low w (7 : Int32) = (0 : Int32) then (0 : Int32) else own_ch8 w
def own_ch6 (w : Int64) : Int32 := if own_low w (6 : Int32) = (0 : Int32) then (0 : Int32) else own_ch7 w
def own_ch5 (w : Int64) : Int32 := if own_low w (5 : Int32) = (0 : Int32) then (0 : Int32) else own_ch6 w
def own_ch4 (w : Int64) : Int32 := if own_low w (4 : Int32) = (0 : Int32) then (0 : Int32) else own_ch5 w
def own_ch3 (w : Int64) : Int32 := if own_low w (3 : Int32) = (0 : Int32) then (0 : Int32) else own_ch4 w
def own_ch2 (w : Int64) : Int32 := if own_low w (2 : Int32) = (0 : Int32) then (0 : Int32) else own_ch3 w
def own_ch1 (w : Int64) : Int32 := if own_low w (1 : Int32) = (0 : Int32) then (0 : Int32) else own_ch2 w
def own_ch0 (w : Int64) : Int32 := if own_low w (0 : Int32) = (0 : Int32) then (0 : Int32) else own_ch1 w
theorem own_shift0 (w : Int64) : ((w.toUInt64 >>> (((8 : Int32) * (0 : Int32)) &&& 0x3f).toInt64.toUInt64).toInt64) = w := by
  have h : (((8 : Int32) * (0 : Int32)) &&& 0x3f).toInt64.toUInt64 = 0 := by decide
  rw [h]
  have h2 : w.toUInt64 >>> (0 : UInt64) = w.toUInt64 := by
    refine UInt64.toBitVec_inj.mp ?_
    rw [UInt64.toBitVec_shiftRight]
    simp
  rw [h2]
  rfl
theorem own_nat (w : Int64) : w.toInt % 18446744073709551616 = (w.toBitVec.toNat : Int) := by
  have h : w.toInt = w.toBitVec.toInt := rfl
  rw [h, BitVec.toInt_eq_toNat_bmod]
  have h1 := Int.bmod_emod (x := (w.toBitVec.toNat : Int)) (m := 2 ^ 64)
  have h2 := w.toBitVec.isLt
  omega
theorem own_low_iff {w : Int64} {i : Int32} {q : Int} (hq : ((w.toUInt64 >>> (((8 : Int32) * i) &&& 0x3f).toInt64.toUInt64).toInt64).toInt % 256 = q) : own_low w i = (0 : Int32) ↔ 128 ≤ q := by
  unfold own_low
  generalize ((w.toUInt64 >>> (((8 : Int32) * i) &&& 0x3f).toInt64.toUInt64).toInt64) = S at *
  have h1 := c_maskL S (255 : Int64) 8 (by decide) (by decide)
  have e : (128 : Int64).toInt = 128 := rfl
  have hl : (lcmpW (S &&& (255 : Int64)) (128 : Int64)) < (0 : Int32) ↔ q < 128 := by
    rw [lw_lt, Int64.lt_iff_toInt_lt, e, h1, ← hq]
    exact Iff.rfl
  by_cases c : (lcmpW (S &&& (255 : Int64)) (128 : Int64)) < (0 : Int32)
  · rw [if_pos c]
    have := hl.mp c
    constructor
    · intro z; exact absurd z (by decide)
    · intro z; omega
  · rw [if_neg c]
    have h3 : ¬ q < 128 := fun z => c (hl.mpr z)
    constructor
    · intro _; omega
    · intro _; rfl
theorem own_low0 (w : Int64) : own_low w (0 : Int32) = (0 : Int32) ↔ w.toBitVec.toNat / 128 % 2 = 1 := by
  have h := own_nat w
  have h2 := own_low_iff (w := w) (i := (0 : Int32)) (q := w.toInt % 256) (by rw [own_shift0])
  rw [h2]
  omega
theorem own_lowk (w : Int64) (i : Int32) (k : Nat) (hk : ((8 : Int32) * i).toBitVec.toNat % 64 = k) (h0 : 0 < k) : own_low w i = (0 : Int32) ↔ 128 ≤ ((w.toBitVec.toNat : Int) / ((2 ^ k : Nat) : Int)) % 256 := by
  have h := own_nat w
  have h1 := c_lushr w ((8 : Int32) * i) k hk h0
  exact own_low_iff (by rw [h1, h])
theorem own_low1 (w : Int64) : own_low w (1 : Int32) = (0 : Int32) ↔ w.toBitVec.toNat / 32768 % 2 = 1 := by
  rw [own_lowk w 1 8 (by decide) (by decide)]; omega
theorem own_low2 (w : Int64) : own_low w (2 : Int32) = (0 : Int32) ↔ w.toBitVec.toNat / 8388608 % 2 = 1 := by
  rw [own_lowk w 2 16 (by decide) (by decide)]; omega
theorem own_low3 (w : Int64) : own_low w (3 : Int32) = (0 : Int32) ↔ w.toBitVec.toNat / 2147483648 % 2 = 1 := by
  rw [own_lowk w 3 24 (by decide) (by decide)]; omega
theorem own_low4 (w : Int64) : own_low w (4 : Int32) = (0 : Int32) ↔ w.toBitVec.toNat / 549755813888 % 2 = 1 := by
  rw [own_lowk w 4 32 (by decide) (by decide)]; omega
theorem own_low5 (w : Int64) : own_low w (5 : Int32) = (0 : Int32) ↔ w.toBitVec.toNat / 140737488355328 % 2 = 1 := by
  rw [own_lowk w 5 40 (by decide) (by decide)]; omega
theorem own_low6 (w : Int64) : own_low w (6 : Int32) = (0 : Int32) ↔ w.toBitVec.toNat / 36028797018963968 % 2 = 1 := by
  rw [own_lowk w 6 48 (by decide) (by decide)]; omega
theorem own_low7 (w : Int64) : own_low w (7 : Int32) = (0 : Int32) ↔ w.toBitVec.toNat / 9223372036854775808 % 2 = 1 := by
  rw [own_lowk w 7 56 (by decide) (by decide)]; omega
theorem own_bits : ∀ i : Fin 64, (9259542123273814144 : Nat).testBit i.1 = true → i.1 = 7 ∨ i.1 = 15 ∨ i.1 = 23 ∨ i.1 = 31 ∨ i.1 = 39 ∨ i.1 = 47 ∨ i.1 = 55 ∨ i.1 = 63 := by decide
theorem own_tb (n k : Nat) : n.testBit k = true ↔ n / 2 ^ k % 2 = 1 := by
  rw [Nat.testBit_eq_decide_div_mod_eq, decide_eq_true_eq]
theorem own_and (n : Nat) : n &&& 9259542123273814144 = 0 ↔ (¬ n / 128 % 2 = 1) ∧ (¬ n / 32768 % 2 = 1) ∧ (¬ n / 8388608 % 2 = 1) ∧ (¬ n / 2147483648 % 2 = 1) ∧ (¬ n / 549755813888 % 2 = 1) ∧ (¬ n / 140737488355328 % 2 = 1) ∧ (¬ n / 36028797018963968 % 2 = 1) ∧ (¬ n / 9223372036854775808 % 2 = 1) := by
  constructor
  · intro h
    have key : ∀ k, (9259542123273814144 : Nat).testBit k = true → ¬ n / 2 ^ k % 2 = 1 := by
      intro k hk q
      have t : (n &&& 9259542123273814144).testBit k = true := by
        rw [Nat.testBit_and, hk, (own_tb n k).mpr q]; rfl
      rw [h, Nat.zero_testBit] at t
      exact absurd t (by decide)
    exact ⟨key 7 (by decide), key 15 (by decide), key 23 (by decide), key 31 (by decide), key 39 (by decide), key 47 (by decide), key 55 (by decide), key 63 (by decide)⟩
  · rintro ⟨a0, a1, a2, a3, a4, a5, a6, a7⟩
    refine Nat.eq_of_testBit_eq fun k => ?_
    rw [Nat.testBit_and, Nat.zero_testBit]
    by_cases c : (9259542123273814144 : Nat).testBit k = true
    · have hk : k < 64 := by
        refine Nat.lt_of_not_le fun q => ?_
        have : (9259542123273814144 : Nat).testBit k = false := Nat.testBit_lt_two_pow (Nat.lt_of_lt_of_le (by decide : (9259542123273814144 : Nat) < 2 ^ 64) (Nat.pow_le_pow_right (by decide) q))
        rw [this] at c
        exact absurd c (by decide)
      have hn : n.testBit k = false := by
        refine Bool.eq_false_iff.mpr fun t => ?_
        have t' := (own_tb n k).mp t
        rcases own_bits ⟨k, hk⟩ c with q | q | q | q | q | q | q | q <;> (have q' : k = _ := q; subst q')
        · exact a0 t'
        · exact a1 t'
        · exact a2 t'
        · exact a3 t'
        · exact a4 t'
        · exact a5 t'
        · exact a6 t'
        · exact a7 t'
      rw [hn]; rfl
    · rw [Bool.eq_false_iff.mpr c]
      exact Bool.and_false _
theorem own_zero (w : Int64) : (w &&& (-9187201950435737472 : Int64)) = (0 : Int64) ↔ w.toBitVec.toNat &&& 9259542123273814144 = 0 := by
  rw [← Int64.toBitVec_inj, Int64.toBitVec_and]
  have e1 : (-9187201950435737472 : Int64).toBitVec = BitVec.ofNat 64 9259542123273814144 := by decide
  have e2 : (0 : Int64).toBitVec = BitVec.ofNat 64 0 := rfl
  rw [e1, e2]
  constructor
  · intro h
    have h' := congrArg BitVec.toNat h
    rw [BitVec.toNat_and] at h'
    exact h'
  · intro h
    refine BitVec.eq_of_toNat_eq ?_
    rw [BitVec.toNat_and]
    exact h
theorem own_main (w : Int64) : own_asc w = own_ch0 w := by
  have key : ((lcmpW (w &&& (-9187201950435737472 : Int64)) (0 : Int64)) = (0 : Int32)) ↔ ((¬ own_low w 0 = 0) ∧ (¬ own_low w 1 = 0) ∧ (¬ own_low w 2 = 0) ∧ (¬ own_low w 3 = 0) ∧ (¬ own_low w 4 = 0) ∧ (¬ own_low w 5 = 0) ∧ (¬ own_low w 6 = 0) ∧ (¬ own_low w 7 = 0)) := by
    rw [lw_eq, own_zero, own_and, own_low0, own_low1, own_low2, own_low3, own_low4, own_low5, own_low6, own_low7]
  unfold own_asc own_ch0 own_ch1 own_ch2 own_ch3 own_ch4 own_ch5 own_ch6 own_ch7 own_ch8
  by_cases c : (lcmpW (w &&& (-9187201950435737472 : Int64)) (0 : Int64)) = (0 : Int32)
  · obtain ⟨a0, a1, a2, a3, a4, a5, a6, a7⟩ := key.mp c
    rw [if_pos c, if_neg a0, if_neg a1, if_neg a2, if_neg a3, if_neg a4, if_neg a5, if_neg a6, if_neg a7]
  · rw [if_neg c]
    by_cases a0 : own_low w 0 = 0
    · rw [if_pos a0]
    · rw [if_neg a0]
      by_cases a1 : own_low w 1 = 0
      · rw [if_pos a1]
      · rw [if_neg a1]
        by_cases a2 : own_low w 2 = 0
        · rw [if_pos a2]
        · rw [if_neg a2]
          by_cases a3 : own_low w 3 = 0
          · rw [if_pos a3]
          · rw [if_neg a3]
            by_cases a4 : own_low w 4 = 0
            · rw [if_pos a4]
            · rw [if_neg a4]
              by_cases a5 : own_low w 5 = 0
              · rw [if_pos a5]
              · rw [if_neg a5]
                by_cases a6 : own_low w 6 = 0
                · rw [if_pos a6]
                · rw [if_neg a6]
                  by_cases a7 : own_low w 7 = 0
                  · rw [if_pos a7]
                  · exact absurd (key.mpr ⟨a0, a1, a2, a3, a4, a5, a6, a7⟩) c

theorem d1_0 : decode method_2_code 0 = .ok (.lload_n 0, 1) := by decide +kernel
theorem d1_1 : decode method_2_code 1 = .ok (.bipush 8, 2) := by decide +kernel
theorem d1_3 : decode method_2_code 3 = .ok (.iload_n 2, 1) := by decide +kernel
theorem d1_4 : decode method_2_code 4 = .ok (.imul, 1) := by decide +kernel
theorem d1_5 : decode method_2_code 5 = .ok (.lushr, 1) := by decide +kernel
theorem d1_6 : decode method_2_code 6 = .ok (.ldc2_w 7, 3) := by decide +kernel
theorem d1_9 : decode method_2_code 9 = .ok (.land, 1) := by decide +kernel
theorem d1_10 : decode method_2_code 10 = .ok (.ldc2_w 9, 3) := by decide +kernel
theorem d1_13 : decode method_2_code 13 = .ok (.lcmp, 1) := by decide +kernel
theorem d1_14 : decode method_2_code 14 = .ok (.ifCond .ge 7, 3) := by decide +kernel
theorem d1_17 : decode method_2_code 17 = .ok (.iconst 1, 1) := by decide +kernel
theorem d1_18 : decode method_2_code 18 = .ok (.goto 4, 3) := by decide +kernel
theorem d1_21 : decode method_2_code 21 = .ok (.iconst 0, 1) := by decide +kernel
theorem d1_22 : decode method_2_code 22 = .ok (.ireturn, 1) := by decide +kernel
theorem pn_1 : plainName "com/example/verdicts_from_logs/verdictsfromlogs/EightBytesAsciiPinLaw" = true := by first | (simp [plainName, overriddenIn]; done) | decide +kernel
theorem ef_1 (m : MethodId) (x0 : Int64) (x1 : Int32) : entryFrame m #[(.long x0), (.int x1)] 3 = mkF m 0 #[.val (.long x0), .second, .val (.int x1)] [] := by first | (simp [entryFrame, mkF, argsToLocals, Value.category]; done) | rfl
def Q1 (Z : State) (q1 : Int64) (p2 : Int32)  (h0 : Heap) (n0 : Nat) (v : Option Value) (h : Heap) (L : List Loc) : Prop := v = some (.int (own_low q1 p2)) ∧ Fr n0 L ∧ h = h0
set_option maxRecDepth 65536 in
set_option maxHeartbeats 40000000 in
theorem rm1 (l : Launch) (Z : State) (a0 : Array Value) (hw : ∀ d ∈ tables_1, d.before a0 Z = true) (ws : List Jvm.Cond) (q1 : Int64) (p2 : Int32)  (h0 : Heap) (n0 : Nat) (Z0 : n0 ≤ h0.size)  :
    MetFree l (⟨"com/example/verdicts_from_logs/verdictsfromlogs/EightBytesAsciiPinLaw", "low", "(JI)Z"⟩ : MethodName) (head1 (Jvm.Cond.code (⟨"com/example/verdicts_from_logs/verdictsfromlogs/EightBytesAsciiPinLaw", "low", "(JI)Z"⟩ : MethodName) method_2_code 3 (some .boolean) :: ws) ({ frames := 0, cells := 0, slots := 0, locals := 0 } : Room)) (fun a U => a = #[(.long q1), (.int p2)] ∧ Z.Warmed39 U.vm ∧ U.heap = h0) (fun _ _ _ _ _ => True) (fun _ U o U' => ∃ v L, o = .returned v ∧ Q1 Z q1 p2  h0 n0 v U'.heap L ∧ FrameEnd U o U' L ({ frames := 0, cells := 0, slots := 0, locals := 0 } : Room).cells ({ frames := 0, cells := 0, slots := 0, locals := 0 } : Room).slots) := by
  refine MetFree.of_bodySF (plainFor_of_name pn_1) hisR ?_
  intro p e s m args below meth c s₁ Bd hml0 hP hK
  obtain ⟨rfl, hZ, hh⟩ := hP
  have hx := Bd.exec
  have hby := Bd.bytes
  have hml : c.maxLocals = 3 := hml0
  have hown : s.vm.findClass "com/example/verdicts_from_logs/verdictsfromlogs/EightBytesAsciiPinLaw" = some m.cls := findClass_of_methodNamed Bd.named
  have hnm := (name_of_methodNamed Bd.named Bd.method).1
  have X0 : Stand p l e ({ frames := 0, cells := 0, slots := 0, locals := 0 } : Room) s m #[(.long q1), (.int p2)] below meth c s₁ [] 0 0 := Stand.of_body Bd
  have e0 : s₁.heap = h0 := by rw [← hh, Bd.state]; rfl
  have N0 := Fr.nil n0
  have pre0 : ∀ t, Steps p.tables e below (s₁.setTop (mkF m 0 #[.val (.long q1), .second, .val (.int p2)] [])) t → Steps p.tables e below (s₁.setTop (entryFrame m #[(.long q1), (.int p2)] 3)) t := fun t k => castTop (ef_1 m q1 p2) k
  obtain ⟨b1, hb1⟩ : ∃ z : Int32, z = (if (lcmpW (((q1.toUInt64 >>> (((8 : Int32) * p2) &&& 0x3f).toInt64.toUInt64).toInt64) &&& (255 : Int64)) (128 : Int64)) < (0 : Int32) then (1 : Int32) else (0 : Int32)) := ⟨_, rfl⟩
  have st1 : ∀ t, Steps p.tables e below (s₁.setTop (mkF m 22 #[.val (.long q1), .second, .val (.int p2)] [(.int b1)])) t → Steps p.tables e below (s₁.setTop (mkF m 0 #[.val (.long q1), .second, .val (.int p2)] [])) t := by
    intro t k
    by_cases hcs1 : (lcmpW (((q1.toUInt64 >>> (((8 : Int32) * p2) &&& 0x3f).toInt64.toUInt64).toInt64) &&& (255 : Int64)) (128 : Int64)) < (0 : Int32)
    · skip
      rw [if_pos hcs1] at hb1
      rw [hb1] at k
      show Steps p.tables e below (s₁.setTop (mkF m 0 #[.val (.long q1), .second, .val (.int p2)] [])) _
      refine XS.lloadN X0.here hx rfl (hb hby d1_0) rfl ?_
      show Steps p.tables e below (s₁.setTop (mkF m 1 #[.val (.long q1), .second, .val (.int p2)] [(.long q1)])) _
      refine XS.bipush X0.here hx rfl (hb hby d1_1) ?_
      show Steps p.tables e below (s₁.setTop (mkF m 3 #[.val (.long q1), .second, .val (.int p2)] [(.int (8 : Int32)), (.long q1)])) _
      refine XS.iloadN X0.here hx rfl (hb hby d1_3) rfl ?_
      show Steps p.tables e below (s₁.setTop (mkF m 4 #[.val (.long q1), .second, .val (.int p2)] [(.int p2), (.int (8 : Int32)), (.long q1)])) _
      refine XS.imul X0.here hx rfl (hb hby d1_4) rfl ?_
      show Steps p.tables e below (s₁.setTop (mkF m 5 #[.val (.long q1), .second, .val (.int p2)] [(.int ((8 : Int32) * p2)), (.long q1)])) _
      refine XS.lushr X0.here hx rfl (hb hby d1_5) rfl ?_
      show Steps p.tables e below (s₁.setTop (mkF m 6 #[.val (.long q1), .second, .val (.int p2)] [(.long ((q1.toUInt64 >>> (((8 : Int32) * p2) &&& 0x3f).toInt64.toUInt64).toInt64))])) _
      refine X0.ldc2Long hx hown (mvT hZ (hw _ (List.mem_of_getElem? (i := 6) rfl))) (g := (mkF m 6 #[.val (.long q1), .second, .val (.int p2)] [(.long ((q1.toUInt64 >>> (((8 : Int32) * p2) &&& 0x3f).toInt64.toUInt64).toInt64))])) rfl (hb hby d1_6) _ ?_
      show Steps p.tables e below (s₁.setTop (mkF m 9 #[.val (.long q1), .second, .val (.int p2)] [(.long (255 : Int64)), (.long ((q1.toUInt64 >>> (((8 : Int32) * p2) &&& 0x3f).toInt64.toUInt64).toInt64))])) _
      refine XS.land X0.here hx rfl (hb hby d1_9) rfl ?_
      show Steps p.tables e below (s₁.setTop (mkF m 10 #[.val (.long q1), .second, .val (.int p2)] [(.long (((q1.toUInt64 >>> (((8 : Int32) * p2) &&& 0x3f).toInt64.toUInt64).toInt64) &&& (255 : Int64)))])) _
      refine X0.ldc2Long hx hown (mvT hZ (hw _ (List.mem_of_getElem? (i := 1) rfl))) (g := (mkF m 10 #[.val (.long q1), .second, .val (.int p2)] [(.long (((q1.toUInt64 >>> (((8 : Int32) * p2) &&& 0x3f).toInt64.toUInt64).toInt64) &&& (255 : Int64)))])) rfl (hb hby d1_10) _ ?_
      show Steps p.tables e below (s₁.setTop (mkF m 13 #[.val (.long q1), .second, .val (.int p2)] [(.long (128 : Int64)), (.long (((q1.toUInt64 >>> (((8 : Int32) * p2) &&& 0x3f).toInt64.toUInt64).toInt64) &&& (255 : Int64)))])) _
      refine XS.lcmp X0.here hx rfl (hb hby d1_13) rfl ?_
      show Steps p.tables e below (s₁.setTop (mkF m 14 #[.val (.long q1), .second, .val (.int p2)] [(.int (lcmpW (((q1.toUInt64 >>> (((8 : Int32) * p2) &&& 0x3f).toInt64.toUInt64).toInt64) &&& (255 : Int64)) (128 : Int64)))])) _
      refine XS.ifNo X0.here hx rfl (hb hby d1_14) rfl ((if0 _ _).trans (tlt hcs1).2.1) ?_
      show Steps p.tables e below (s₁.setTop (mkF m 17 #[.val (.long q1), .second, .val (.int p2)] [])) _
      refine XS.iconst X0.here hx rfl (hb hby d1_17) ?_
      show Steps p.tables e below (s₁.setTop (mkF m 18 #[.val (.long q1), .second, .val (.int p2)] [(.int (1 : Int32))])) _
      refine XS.goto X0.here hx rfl (pc0 := 18) (pc' := 22) rfl (hb hby d1_18) (by decide) (by decide) ?_
      exact k
    · skip
      rw [if_neg hcs1] at hb1
      rw [hb1] at k
      show Steps p.tables e below (s₁.setTop (mkF m 0 #[.val (.long q1), .second, .val (.int p2)] [])) _
      refine XS.lloadN X0.here hx rfl (hb hby d1_0) rfl ?_
      show Steps p.tables e below (s₁.setTop (mkF m 1 #[.val (.long q1), .second, .val (.int p2)] [(.long q1)])) _
      refine XS.bipush X0.here hx rfl (hb hby d1_1) ?_
      show Steps p.tables e below (s₁.setTop (mkF m 3 #[.val (.long q1), .second, .val (.int p2)] [(.int (8 : Int32)), (.long q1)])) _
      refine XS.iloadN X0.here hx rfl (hb hby d1_3) rfl ?_
      show Steps p.tables e below (s₁.setTop (mkF m 4 #[.val (.long q1), .second, .val (.int p2)] [(.int p2), (.int (8 : Int32)), (.long q1)])) _
      refine XS.imul X0.here hx rfl (hb hby d1_4) rfl ?_
      show Steps p.tables e below (s₁.setTop (mkF m 5 #[.val (.long q1), .second, .val (.int p2)] [(.int ((8 : Int32) * p2)), (.long q1)])) _
      refine XS.lushr X0.here hx rfl (hb hby d1_5) rfl ?_
      show Steps p.tables e below (s₁.setTop (mkF m 6 #[.val (.long q1), .second, .val (.int p2)] [(.long ((q1.toUInt64 >>> (((8 : Int32) * p2) &&& 0x3f).toInt64.toUInt64).toInt64))])) _
      refine X0.ldc2Long hx hown (mvT hZ (hw _ (List.mem_of_getElem? (i := 6) rfl))) (g := (mkF m 6 #[.val (.long q1), .second, .val (.int p2)] [(.long ((q1.toUInt64 >>> (((8 : Int32) * p2) &&& 0x3f).toInt64.toUInt64).toInt64))])) rfl (hb hby d1_6) _ ?_
      show Steps p.tables e below (s₁.setTop (mkF m 9 #[.val (.long q1), .second, .val (.int p2)] [(.long (255 : Int64)), (.long ((q1.toUInt64 >>> (((8 : Int32) * p2) &&& 0x3f).toInt64.toUInt64).toInt64))])) _
      refine XS.land X0.here hx rfl (hb hby d1_9) rfl ?_
      show Steps p.tables e below (s₁.setTop (mkF m 10 #[.val (.long q1), .second, .val (.int p2)] [(.long (((q1.toUInt64 >>> (((8 : Int32) * p2) &&& 0x3f).toInt64.toUInt64).toInt64) &&& (255 : Int64)))])) _
      refine X0.ldc2Long hx hown (mvT hZ (hw _ (List.mem_of_getElem? (i := 1) rfl))) (g := (mkF m 10 #[.val (.long q1), .second, .val (.int p2)] [(.long (((q1.toUInt64 >>> (((8 : Int32) * p2) &&& 0x3f).toInt64.toUInt64).toInt64) &&& (255 : Int64)))])) rfl (hb hby d1_10) _ ?_
      show Steps p.tables e below (s₁.setTop (mkF m 13 #[.val (.long q1), .second, .val (.int p2)] [(.long (128 : Int64)), (.long (((q1.toUInt64 >>> (((8 : Int32) * p2) &&& 0x3f).toInt64.toUInt64).toInt64) &&& (255 : Int64)))])) _
      refine XS.lcmp X0.here hx rfl (hb hby d1_13) rfl ?_
      show Steps p.tables e below (s₁.setTop (mkF m 14 #[.val (.long q1), .second, .val (.int p2)] [(.int (lcmpW (((q1.toUInt64 >>> (((8 : Int32) * p2) &&& 0x3f).toInt64.toUInt64).toInt64) &&& (255 : Int64)) (128 : Int64)))])) _
      refine XS.ifYes X0.here hx rfl (pc0 := 14) (pc' := 21) rfl (hb hby d1_14) rfl ((if0 _ _).trans (flt hcs1).2.1) (by decide) (by decide) ?_
      show Steps p.tables e below (s₁.setTop (mkF m 21 #[.val (.long q1), .second, .val (.int p2)] [])) _
      refine XS.iconst X0.here hx rfl (hb hby d1_21) ?_
      exact k
  have hnar : nar .boolean b1 = b1 := by
    rw [hb1]
    repeat' split
    all_goals rfl
  obtain ⟨fs, hr, hrun, hended, hW, hsame⟩ := X0.leave (v := some (.int b1)) (fun h => by rw [Bd.returns] at h; cases h)
  refine ⟨_, _, pre0 _ ?_, hrun, hended, _, _, rfl, ?_, ⟨_, rfl⟩, hW, hsame.mono (by decide) (by decide)⟩
  · show Steps p.tables e below (s₁.setTop (mkF m 0 #[.val (.long q1), .second, .val (.int p2)] [])) _
    refine st1 _ ?_
    show Steps p.tables e below (s₁.setTop (mkF m 22 #[.val (.long q1), .second, .val (.int p2)] [(.int b1)])) _
    exact retN X0 hx (t := .boolean) Bd.returns (by simp) (hb hby d1_22) (by rw [hnar]; exact hr)
  · show Q1 Z q1 p2  h0 n0 _ s₁.heap _
    rw [e0]
    exact ⟨by rw [hb1]; rfl, N0, rfl⟩

theorem d2_0 : decode prog_1_method_4_code 0 = .ok (.lload_n 0, 1) := by decide +kernel
theorem d2_1 : decode prog_1_method_4_code 1 = .ok (.ldc2_w 25, 3) := by decide +kernel
theorem d2_4 : decode prog_1_method_4_code 4 = .ok (.land, 1) := by decide +kernel
theorem d2_5 : decode prog_1_method_4_code 5 = .ok (.lconst 0, 1) := by decide +kernel
theorem d2_6 : decode prog_1_method_4_code 6 = .ok (.lcmp, 1) := by decide +kernel
theorem d2_7 : decode prog_1_method_4_code 7 = .ok (.ifCond .ne 7, 3) := by decide +kernel
theorem d2_10 : decode prog_1_method_4_code 10 = .ok (.iconst 1, 1) := by decide +kernel
theorem d2_11 : decode prog_1_method_4_code 11 = .ok (.goto 4, 3) := by decide +kernel
theorem d2_14 : decode prog_1_method_4_code 14 = .ok (.iconst 0, 1) := by decide +kernel
theorem d2_15 : decode prog_1_method_4_code 15 = .ok (.ireturn, 1) := by decide +kernel
theorem pn_2 : plainName "com/example/verdicts_from_logs/verdictsfromlogs/EightBytes" = true := by first | (simp [plainName, overriddenIn]; done) | decide +kernel
theorem ef_2 (m : MethodId) (x0 : Int64) : entryFrame m #[(.long x0)] 2 = mkF m 0 #[.val (.long x0), .second] [] := by first | (simp [entryFrame, mkF, argsToLocals, Value.category]; done) | rfl
def Q2 (Z : State) (q1 : Int64)  (h0 : Heap) (n0 : Nat) (v : Option Value) (h : Heap) (L : List Loc) : Prop := v = some (.int (own_asc q1)) ∧ Fr n0 L ∧ h = h0
set_option maxRecDepth 65536 in
set_option maxHeartbeats 40000000 in
theorem rm2 (l : Launch) (Z : State) (a0 : Array Value) (hw : ∀ d ∈ tables_1, d.before a0 Z = true) (ws : List Jvm.Cond) (q1 : Int64)  (h0 : Heap) (n0 : Nat) (Z0 : n0 ≤ h0.size)  :
    MetFree l (⟨"com/example/verdicts_from_logs/verdictsfromlogs/EightBytes", "ascii", "(J)Z"⟩ : MethodName) (head1 (Jvm.Cond.code (⟨"com/example/verdicts_from_logs/verdictsfromlogs/EightBytes", "ascii", "(J)Z"⟩ : MethodName) prog_1_method_4_code 2 (some .boolean) :: ws) ({ frames := 0, cells := 0, slots := 0, locals := 0 } : Room)) (fun a U => a = #[(.long q1)] ∧ Z.Warmed39 U.vm ∧ U.heap = h0) (fun _ _ _ _ _ => True) (fun _ U o U' => ∃ v L, o = .returned v ∧ Q2 Z q1  h0 n0 v U'.heap L ∧ FrameEnd U o U' L ({ frames := 0, cells := 0, slots := 0, locals := 0 } : Room).cells ({ frames := 0, cells := 0, slots := 0, locals := 0 } : Room).slots) := by
  refine MetFree.of_bodySF (plainFor_of_name pn_2) hisR ?_
  intro p e s m args below meth c s₁ Bd hml0 hP hK
  obtain ⟨rfl, hZ, hh⟩ := hP
  have hx := Bd.exec
  have hby := Bd.bytes
  have hml : c.maxLocals = 2 := hml0
  have hown : s.vm.findClass "com/example/verdicts_from_logs/verdictsfromlogs/EightBytes" = some m.cls := findClass_of_methodNamed Bd.named
  have hnm := (name_of_methodNamed Bd.named Bd.method).1
  have X0 : Stand p l e ({ frames := 0, cells := 0, slots := 0, locals := 0 } : Room) s m #[(.long q1)] below meth c s₁ [] 0 0 := Stand.of_body Bd
  have e0 : s₁.heap = h0 := by rw [← hh, Bd.state]; rfl
  have N0 := Fr.nil n0
  have pre0 : ∀ t, Steps p.tables e below (s₁.setTop (mkF m 0 #[.val (.long q1), .second] [])) t → Steps p.tables e below (s₁.setTop (entryFrame m #[(.long q1)] 2)) t := fun t k => castTop (ef_2 m q1) k
  obtain ⟨b1, hb1⟩ : ∃ z : Int32, z = (if (lcmpW (q1 &&& (-9187201950435737472 : Int64)) (0 : Int64)) = (0 : Int32) then (1 : Int32) else (0 : Int32)) := ⟨_, rfl⟩
  have st1 : ∀ t, Steps p.tables e below (s₁.setTop (mkF m 15 #[.val (.long q1), .second] [(.int b1)])) t → Steps p.tables e below (s₁.setTop (mkF m 0 #[.val (.long q1), .second] [])) t := by
    intro t k
    by_cases hcs1 : (lcmpW (q1 &&& (-9187201950435737472 : Int64)) (0 : Int64)) = (0 : Int32)
    · skip
      rw [if_pos hcs1] at hb1
      rw [hb1] at k
      show Steps p.tables e below (s₁.setTop (mkF m 0 #[.val (.long q1), .second] [])) _
      refine XS.lloadN X0.here hx rfl (hb hby d2_0) rfl ?_
      show Steps p.tables e below (s₁.setTop (mkF m 1 #[.val (.long q1), .second] [(.long q1)])) _
      refine X0.ldc2Long hx hown (mvT hZ (hw _ (List.mem_of_getElem? (i := 11) rfl))) (g := (mkF m 1 #[.val (.long q1), .second] [(.long q1)])) rfl (hb hby d2_1) _ ?_
      show Steps p.tables e below (s₁.setTop (mkF m 4 #[.val (.long q1), .second] [(.long (-9187201950435737472 : Int64)), (.long q1)])) _
      refine XS.land X0.here hx rfl (hb hby d2_4) rfl ?_
      show Steps p.tables e below (s₁.setTop (mkF m 5 #[.val (.long q1), .second] [(.long (q1 &&& (-9187201950435737472 : Int64)))])) _
      refine XS.lconst X0.here hx rfl (hb hby d2_5) ?_
      show Steps p.tables e below (s₁.setTop (mkF m 6 #[.val (.long q1), .second] [(.long (0 : Int64)), (.long (q1 &&& (-9187201950435737472 : Int64)))])) _
      refine XS.lcmp X0.here hx rfl (hb hby d2_6) rfl ?_
      show Steps p.tables e below (s₁.setTop (mkF m 7 #[.val (.long q1), .second] [(.int (lcmpW (q1 &&& (-9187201950435737472 : Int64)) (0 : Int64)))])) _
      refine XS.ifNo X0.here hx rfl (hb hby d2_7) rfl ((if0 _ _).trans (teq hcs1).2) ?_
      show Steps p.tables e below (s₁.setTop (mkF m 10 #[.val (.long q1), .second] [])) _
      refine XS.iconst X0.here hx rfl (hb hby d2_10) ?_
      show Steps p.tables e below (s₁.setTop (mkF m 11 #[.val (.long q1), .second] [(.int (1 : Int32))])) _
      refine XS.goto X0.here hx rfl (pc0 := 11) (pc' := 15) rfl (hb hby d2_11) (by decide) (by decide) ?_
      exact k
    · skip
      rw [if_neg hcs1] at hb1
      rw [hb1] at k
      show Steps p.tables e below (s₁.setTop (mkF m 0 #[.val (.long q1), .second] [])) _
      refine XS.lloadN X0.here hx rfl (hb hby d2_0) rfl ?_
      show Steps p.tables e below (s₁.setTop (mkF m 1 #[.val (.long q1), .second] [(.long q1)])) _
      refine X0.ldc2Long hx hown (mvT hZ (hw _ (List.mem_of_getElem? (i := 11) rfl))) (g := (mkF m 1 #[.val (.long q1), .second] [(.long q1)])) rfl (hb hby d2_1) _ ?_
      show Steps p.tables e below (s₁.setTop (mkF m 4 #[.val (.long q1), .second] [(.long (-9187201950435737472 : Int64)), (.long q1)])) _
      refine XS.land X0.here hx rfl (hb hby d2_4) rfl ?_
      show Steps p.tables e below (s₁.setTop (mkF m 5 #[.val (.long q1), .second] [(.long (q1 &&& (-9187201950435737472 : Int64)))])) _
      refine XS.lconst X0.here hx rfl (hb hby d2_5) ?_
      show Steps p.tables e below (s₁.setTop (mkF m 6 #[.val (.long q1), .second] [(.long (0 : Int64)), (.long (q1 &&& (-9187201950435737472 : Int64)))])) _
      refine XS.lcmp X0.here hx rfl (hb hby d2_6) rfl ?_
      show Steps p.tables e below (s₁.setTop (mkF m 7 #[.val (.long q1), .second] [(.int (lcmpW (q1 &&& (-9187201950435737472 : Int64)) (0 : Int64)))])) _
      refine XS.ifYes X0.here hx rfl (pc0 := 7) (pc' := 14) rfl (hb hby d2_7) rfl ((if0 _ _).trans (feq hcs1).2) (by decide) (by decide) ?_
      show Steps p.tables e below (s₁.setTop (mkF m 14 #[.val (.long q1), .second] [])) _
      refine XS.iconst X0.here hx rfl (hb hby d2_14) ?_
      exact k
  have hnar : nar .boolean b1 = b1 := by
    rw [hb1]
    repeat' split
    all_goals rfl
  obtain ⟨fs, hr, hrun, hended, hW, hsame⟩ := X0.leave (v := some (.int b1)) (fun h => by rw [Bd.returns] at h; cases h)
  refine ⟨_, _, pre0 _ ?_, hrun, hended, _, _, rfl, ?_, ⟨_, rfl⟩, hW, hsame.mono (by decide) (by decide)⟩
  · show Steps p.tables e below (s₁.setTop (mkF m 0 #[.val (.long q1), .second] [])) _
    refine st1 _ ?_
    show Steps p.tables e below (s₁.setTop (mkF m 15 #[.val (.long q1), .second] [(.int b1)])) _
    exact retN X0 hx (t := .boolean) Bd.returns (by simp) (hb hby d2_15) (by rw [hnar]; exact hr)
  · show Q2 Z q1  h0 n0 _ s₁.heap _
    rw [e0]
    exact ⟨by rw [hb1]; rfl, N0, rfl⟩

theorem pd_0 : parseMethodDescriptor "(JI)Z" = some ⟨[.long, .int], some .boolean⟩ := by decide +kernel
set_option maxRecDepth 65536 in
set_option maxHeartbeats 40000000 in
theorem own_a7 {p : Program} {l : Launch} {e : Env} {s : State} {m : MethodId} {args : Array Value} {below : List Frame} {meth : Method} {c : Code} {T0 : State} {locs : List Loc} {Z : State} {a0 : Array Value} {h0 : Heap} {n0 : Nat} (q1 : Int64) (p2 : Int32) (W : Int64)
    (X0 : Stand p l e room_1 s m args below meth c T0 locs 0 0) (hx : p.tables.exec = Jvm.exec) (hZ : Z.Warmed39 s.vm) (hw : ∀ d ∈ tables_1, d.before a0 Z = true) (hby : c.code = code) (hml : c.maxLocals = 7) (hown : s.vm.findClass "com/example/verdicts_from_logs/verdictsfromlogs/EightBytesAsciiPinLaw" = some m.cls) (e0 : T0.heap = h0) (Z0 : n0 ≤ h0.size) (N0 : Fr n0 locs)  :
    ∃ (T' : State) (locs' : List Loc), Stand p l e room_1 s m args below meth c T' locs' 0 0 ∧ T'.heap = h0 ∧ Fr n0 locs' ∧ ∀ t, Steps p.tables e below (T'.setTop (mkF m 119 #[.val (.long q1), .second, .val (.int p2), .val (.long W), .second, .unset, .unset] [(.int (own_ch7 W))])) t → Steps p.tables e below (T0.setTop (mkF m 105 #[.val (.long q1), .second, .val (.int p2), .val (.long W), .second, .unset, .unset] [])) t := by
  obtain ⟨_, _, ⟨T1, L1, k1, n1⟩, -, X1, ⟨Lc1, hQ1, l1, y1, z1⟩, st1⟩ := Jvm.LawKit.callS X0 hx (y := (⟨"com/example/verdicts_from_logs/verdictsfromlogs/EightBytesAsciiPinLaw", "low", "(JI)Z"⟩ : MethodName)) hown (mvT hZ (hw _ (List.mem_of_getElem? (i := 2) rfl))) (mvT hZ (hw _ (List.mem_of_getElem? (i := 3) rfl))) (mvT hZ (hw _ (List.mem_of_getElem? (i := 4) rfl))) (mvT hZ (hw _ (List.mem_of_getElem? (i := 5) rfl))) (by decide) (backOf (W := 0) (rm1 l Z a0 hw [] W (7 : Int32) h0 n0 Z0) hZ (hw _ (List.mem_of_getElem? (i := 5) rfl)) (hw _ (List.mem_of_getElem? (i := 4) rfl)) (by decide) (by decide)) (g := (mkF m 108 #[.val (.long q1), .second, .val (.int p2), .val (.long W), .second, .unset, .unset] [(.int (7 : Int32)), (.long W)])) rfl (by rw [hml]; rfl) (argsL := [(.long W), (.int (7 : Int32))]) (rest := []) (lenOf pd_0 rfl) rfl (by show 2 * 0 + _ ≤ _; exact Nat.le_of_eq rfl) (hb hby at_108) (fun _ _ => ⟨rfl, e0, (by decide : 0 + 0 ≤ _), (by decide : 0 + 0 ≤ _)⟩)
  dsimp only [Pt.U, Pt.locs, Pt.cells, Pt.slots] at X1 l1 y1 z1 st1 hQ1
  subst l1 y1 z1
  obtain ⟨rfl, N1q, e1⟩ := hQ1
  have N1 := Fr.app N0 N1q
  by_cases q : own_low W (7 : Int32) = (0 : Int32)
  · have hv : own_ch7 W = (0 : Int32) := if_pos q
    rw [hv]
    refine ⟨_, _, X1, e1, N1, fun t k => ?_⟩
    show Steps p.tables e below (T0.setTop (mkF m 105 #[.val (.long q1), .second, .val (.int p2), .val (.long W), .second, .unset, .unset] [])) _
    refine XS.lloadN X0.here hx rfl (hb hby at_105) rfl ?_
    show Steps p.tables e below (T0.setTop (mkF m 106 #[.val (.long q1), .second, .val (.int p2), .val (.long W), .second, .unset, .unset] [(.long W)])) _
    refine XS.bipush X0.here hx rfl (hb hby at_106) ?_
    show Steps p.tables e below (T0.setTop (mkF m 108 #[.val (.long q1), .second, .val (.int p2), .val (.long W), .second, .unset, .unset] [(.int (7 : Int32)), (.long W)])) _
    refine st1 _ ?_
    show Steps p.tables e below (T1.setTop (mkF m 111 #[.val (.long q1), .second, .val (.int p2), .val (.long W), .second, .unset, .unset] [(.int (own_low W (7 : Int32)))])) _
    refine XS.ifYes X1.here hx rfl (pc0 := 111) (pc' := 118) rfl (hb hby at_111) rfl ((if0 _ _).trans (teq (q : (own_low W (7 : Int32)) = (0 : Int32))).1) (by decide) (by decide) ?_
    show Steps p.tables e below (T1.setTop (mkF m 118 #[.val (.long q1), .second, .val (.int p2), .val (.long W), .second, .unset, .unset] [])) _
    refine XS.iconst X1.here hx rfl (hb hby at_118) ?_
    exact k
  · have hv : own_ch7 W = (1 : Int32) := if_neg q
    rw [hv]
    refine ⟨_, _, X1, e1, N1, fun t k => ?_⟩
    show Steps p.tables e below (T0.setTop (mkF m 105 #[.val (.long q1), .second, .val (.int p2), .val (.long W), .second, .unset, .unset] [])) _
    refine XS.lloadN X0.here hx rfl (hb hby at_105) rfl ?_
    show Steps p.tables e below (T0.setTop (mkF m 106 #[.val (.long q1), .second, .val (.int p2), .val (.long W), .second, .unset, .unset] [(.long W)])) _
    refine XS.bipush X0.here hx rfl (hb hby at_106) ?_
    show Steps p.tables e below (T0.setTop (mkF m 108 #[.val (.long q1), .second, .val (.int p2), .val (.long W), .second, .unset, .unset] [(.int (7 : Int32)), (.long W)])) _
    refine st1 _ ?_
    show Steps p.tables e below (T1.setTop (mkF m 111 #[.val (.long q1), .second, .val (.int p2), .val (.long W), .second, .unset, .unset] [(.int (own_low W (7 : Int32)))])) _
    refine XS.ifNo X1.here hx rfl (hb hby at_111) rfl ((if0 _ _).trans (feq (q : ¬ ((own_low W (7 : Int32)) = (0 : Int32)))).1) ?_
    show Steps p.tables e below (T1.setTop (mkF m 114 #[.val (.long q1), .second, .val (.int p2), .val (.long W), .second, .unset, .unset] [])) _
    refine XS.iconst X1.here hx rfl (hb hby at_114) ?_
    show Steps p.tables e below (T1.setTop (mkF m 115 #[.val (.long q1), .second, .val (.int p2), .val (.long W), .second, .unset, .unset] [(.int (1 : Int32))])) _
    refine XS.goto X1.here hx rfl (pc0 := 115) (pc' := 119) rfl (hb hby at_115) (by decide) (by decide) ?_
    exact k

set_option maxRecDepth 65536 in
set_option maxHeartbeats 40000000 in
theorem own_a6 {p : Program} {l : Launch} {e : Env} {s : State} {m : MethodId} {args : Array Value} {below : List Frame} {meth : Method} {c : Code} {T0 : State} {locs : List Loc} {Z : State} {a0 : Array Value} {h0 : Heap} {n0 : Nat} (q1 : Int64) (p2 : Int32) (W : Int64)
    (X0 : Stand p l e room_1 s m args below meth c T0 locs 0 0) (hx : p.tables.exec = Jvm.exec) (hZ : Z.Warmed39 s.vm) (hw : ∀ d ∈ tables_1, d.before a0 Z = true) (hby : c.code = code) (hml : c.maxLocals = 7) (hown : s.vm.findClass "com/example/verdicts_from_logs/verdictsfromlogs/EightBytesAsciiPinLaw" = some m.cls) (e0 : T0.heap = h0) (Z0 : n0 ≤ h0.size) (N0 : Fr n0 locs)  :
    ∃ (T' : State) (locs' : List Loc), Stand p l e room_1 s m args below meth c T' locs' 0 0 ∧ T'.heap = h0 ∧ Fr n0 locs' ∧ ∀ t, Steps p.tables e below (T'.setTop (mkF m 119 #[.val (.long q1), .second, .val (.int p2), .val (.long W), .second, .unset, .unset] [(.int (own_ch6 W))])) t → Steps p.tables e below (T0.setTop (mkF m 96 #[.val (.long q1), .second, .val (.int p2), .val (.long W), .second, .unset, .unset] [])) t := by
  obtain ⟨_, _, ⟨T1, L1, k1, n1⟩, -, X1, ⟨Lc1, hQ1, l1, y1, z1⟩, st1⟩ := Jvm.LawKit.callS X0 hx (y := (⟨"com/example/verdicts_from_logs/verdictsfromlogs/EightBytesAsciiPinLaw", "low", "(JI)Z"⟩ : MethodName)) hown (mvT hZ (hw _ (List.mem_of_getElem? (i := 2) rfl))) (mvT hZ (hw _ (List.mem_of_getElem? (i := 3) rfl))) (mvT hZ (hw _ (List.mem_of_getElem? (i := 4) rfl))) (mvT hZ (hw _ (List.mem_of_getElem? (i := 5) rfl))) (by decide) (backOf (W := 0) (rm1 l Z a0 hw [] W (6 : Int32) h0 n0 Z0) hZ (hw _ (List.mem_of_getElem? (i := 5) rfl)) (hw _ (List.mem_of_getElem? (i := 4) rfl)) (by decide) (by decide)) (g := (mkF m 99 #[.val (.long q1), .second, .val (.int p2), .val (.long W), .second, .unset, .unset] [(.int (6 : Int32)), (.long W)])) rfl (by rw [hml]; rfl) (argsL := [(.long W), (.int (6 : Int32))]) (rest := []) (lenOf pd_0 rfl) rfl (by show 2 * 0 + _ ≤ _; exact Nat.le_of_eq rfl) (hb hby at_99) (fun _ _ => ⟨rfl, e0, (by decide : 0 + 0 ≤ _), (by decide : 0 + 0 ≤ _)⟩)
  dsimp only [Pt.U, Pt.locs, Pt.cells, Pt.slots] at X1 l1 y1 z1 st1 hQ1
  subst l1 y1 z1
  obtain ⟨rfl, N1q, e1⟩ := hQ1
  have N1 := Fr.app N0 N1q
  by_cases q : own_low W (6 : Int32) = (0 : Int32)
  · have hv : own_ch6 W = (0 : Int32) := if_pos q
    rw [hv]
    refine ⟨_, _, X1, e1, N1, fun t k => ?_⟩
    show Steps p.tables e below (T0.setTop (mkF m 96 #[.val (.long q1), .second, .val (.int p2), .val (.long W), .second, .unset, .unset] [])) _
    refine XS.lloadN X0.here hx rfl (hb hby at_96) rfl ?_
    show Steps p.tables e below (T0.setTop (mkF m 97 #[.val (.long q1), .second, .val (.int p2), .val (.long W), .second, .unset, .unset] [(.long W)])) _
    refine XS.bipush X0.here hx rfl (hb hby at_97) ?_
    show Steps p.tables e below (T0.setTop (mkF m 99 #[.val (.long q1), .second, .val (.int p2), .val (.long W), .second, .unset, .unset] [(.int (6 : Int32)), (.long W)])) _
    refine st1 _ ?_
    show Steps p.tables e below (T1.setTop (mkF m 102 #[.val (.long q1), .second, .val (.int p2), .val (.long W), .second, .unset, .unset] [(.int (own_low W (6 : Int32)))])) _
    refine XS.ifYes X1.here hx rfl (pc0 := 102) (pc' := 118) rfl (hb hby at_102) rfl ((if0 _ _).trans (teq (q : (own_low W (6 : Int32)) = (0 : Int32))).1) (by decide) (by decide) ?_
    show Steps p.tables e below (T1.setTop (mkF m 118 #[.val (.long q1), .second, .val (.int p2), .val (.long W), .second, .unset, .unset] [])) _
    refine XS.iconst X1.here hx rfl (hb hby at_118) ?_
    exact k
  · have hv : own_ch6 W = own_ch7 W := if_neg q
    rw [hv]
    obtain ⟨T', L', X', e', N', st'⟩ := own_a7 q1 p2 W X1 hx hZ hw hby hml hown e1 Z0 N1
    refine ⟨T', L', X', e', N', fun t k => ?_⟩
    show Steps p.tables e below (T0.setTop (mkF m 96 #[.val (.long q1), .second, .val (.int p2), .val (.long W), .second, .unset, .unset] [])) _
    refine XS.lloadN X0.here hx rfl (hb hby at_96) rfl ?_
    show Steps p.tables e below (T0.setTop (mkF m 97 #[.val (.long q1), .second, .val (.int p2), .val (.long W), .second, .unset, .unset] [(.long W)])) _
    refine XS.bipush X0.here hx rfl (hb hby at_97) ?_
    show Steps p.tables e below (T0.setTop (mkF m 99 #[.val (.long q1), .second, .val (.int p2), .val (.long W), .second, .unset, .unset] [(.int (6 : Int32)), (.long W)])) _
    refine st1 _ ?_
    show Steps p.tables e below (T1.setTop (mkF m 102 #[.val (.long q1), .second, .val (.int p2), .val (.long W), .second, .unset, .unset] [(.int (own_low W (6 : Int32)))])) _
    refine XS.ifNo X1.here hx rfl (hb hby at_102) rfl ((if0 _ _).trans (feq (q : ¬ ((own_low W (6 : Int32)) = (0 : Int32)))).1) ?_
    exact st' _ k

set_option maxRecDepth 65536 in
set_option maxHeartbeats 40000000 in
theorem own_a5 {p : Program} {l : Launch} {e : Env} {s : State} {m : MethodId} {args : Array Value} {below : List Frame} {meth : Method} {c : Code} {T0 : State} {locs : List Loc} {Z : State} {a0 : Array Value} {h0 : Heap} {n0 : Nat} (q1 : Int64) (p2 : Int32) (W : Int64)
    (X0 : Stand p l e room_1 s m args below meth c T0 locs 0 0) (hx : p.tables.exec = Jvm.exec) (hZ : Z.Warmed39 s.vm) (hw : ∀ d ∈ tables_1, d.before a0 Z = true) (hby : c.code = code) (hml : c.maxLocals = 7) (hown : s.vm.findClass "com/example/verdicts_from_logs/verdictsfromlogs/EightBytesAsciiPinLaw" = some m.cls) (e0 : T0.heap = h0) (Z0 : n0 ≤ h0.size) (N0 : Fr n0 locs)  :
    ∃ (T' : State) (locs' : List Loc), Stand p l e room_1 s m args below meth c T' locs' 0 0 ∧ T'.heap = h0 ∧ Fr n0 locs' ∧ ∀ t, Steps p.tables e below (T'.setTop (mkF m 119 #[.val (.long q1), .second, .val (.int p2), .val (.long W), .second, .unset, .unset] [(.int (own_ch5 W))])) t → Steps p.tables e below (T0.setTop (mkF m 88 #[.val (.long q1), .second, .val (.int p2), .val (.long W), .second, .unset, .unset] [])) t := by
  obtain ⟨_, _, ⟨T1, L1, k1, n1⟩, -, X1, ⟨Lc1, hQ1, l1, y1, z1⟩, st1⟩ := Jvm.LawKit.callS X0 hx (y := (⟨"com/example/verdicts_from_logs/verdictsfromlogs/EightBytesAsciiPinLaw", "low", "(JI)Z"⟩ : MethodName)) hown (mvT hZ (hw _ (List.mem_of_getElem? (i := 2) rfl))) (mvT hZ (hw _ (List.mem_of_getElem? (i := 3) rfl))) (mvT hZ (hw _ (List.mem_of_getElem? (i := 4) rfl))) (mvT hZ (hw _ (List.mem_of_getElem? (i := 5) rfl))) (by decide) (backOf (W := 0) (rm1 l Z a0 hw [] W (5 : Int32) h0 n0 Z0) hZ (hw _ (List.mem_of_getElem? (i := 5) rfl)) (hw _ (List.mem_of_getElem? (i := 4) rfl)) (by decide) (by decide)) (g := (mkF m 90 #[.val (.long q1), .second, .val (.int p2), .val (.long W), .second, .unset, .unset] [(.int (5 : Int32)), (.long W)])) rfl (by rw [hml]; rfl) (argsL := [(.long W), (.int (5 : Int32))]) (rest := []) (lenOf pd_0 rfl) rfl (by show 2 * 0 + _ ≤ _; exact Nat.le_of_eq rfl) (hb hby at_90) (fun _ _ => ⟨rfl, e0, (by decide : 0 + 0 ≤ _), (by decide : 0 + 0 ≤ _)⟩)
  dsimp only [Pt.U, Pt.locs, Pt.cells, Pt.slots] at X1 l1 y1 z1 st1 hQ1
  subst l1 y1 z1
  obtain ⟨rfl, N1q, e1⟩ := hQ1
  have N1 := Fr.app N0 N1q
  by_cases q : own_low W (5 : Int32) = (0 : Int32)
  · have hv : own_ch5 W = (0 : Int32) := if_pos q
    rw [hv]
    refine ⟨_, _, X1, e1, N1, fun t k => ?_⟩
    show Steps p.tables e below (T0.setTop (mkF m 88 #[.val (.long q1), .second, .val (.int p2), .val (.long W), .second, .unset, .unset] [])) _
    refine XS.lloadN X0.here hx rfl (hb hby at_88) rfl ?_
    show Steps p.tables e below (T0.setTop (mkF m 89 #[.val (.long q1), .second, .val (.int p2), .val (.long W), .second, .unset, .unset] [(.long W)])) _
    refine XS.iconst X0.here hx rfl (hb hby at_89) ?_
    show Steps p.tables e below (T0.setTop (mkF m 90 #[.val (.long q1), .second, .val (.int p2), .val (.long W), .second, .unset, .unset] [(.int (5 : Int32)), (.long W)])) _
    refine st1 _ ?_
    show Steps p.tables e below (T1.setTop (mkF m 93 #[.val (.long q1), .second, .val (.int p2), .val (.long W), .second, .unset, .unset] [(.int (own_low W (5 : Int32)))])) _
    refine XS.ifYes X1.here hx rfl (pc0 := 93) (pc' := 118) rfl (hb hby at_93) rfl ((if0 _ _).trans (teq (q : (own_low W (5 : Int32)) = (0 : Int32))).1) (by decide) (by decide) ?_
    show Steps p.tables e below (T1.setTop (mkF m 118 #[.val (.long q1), .second, .val (.int p2), .val (.long W), .second, .unset, .unset] [])) _
    refine XS.iconst X1.here hx rfl (hb hby at_118) ?_
    exact k
  · have hv : own_ch5 W = own_ch6 W := if_neg q
    rw [hv]
    obtain ⟨T', L', X', e', N', st'⟩ := own_a6 q1 p2 W X1 hx hZ hw hby hml hown e1 Z0 N1
    refine ⟨T', L', X', e', N', fun t k => ?_⟩
    show Steps p.tables e below (T0.setTop (mkF m 88 #[.val (.long q1), .second, .val (.int p2), .val (.long W), .second, .unset, .unset] [])) _
    refine XS.lloadN X0.here hx rfl (hb hby at_88) rfl ?_
    show Steps p.tables e below (T0.setTop (mkF m 89 #[.val (.long q1), .second, .val (.int p2), .val (.long W), .second, .unset, .unset] [(.long W)])) _
    refine XS.iconst X0.here hx rfl (hb hby at_89) ?_
    show Steps p.tables e below (T0.setTop (mkF m 90 #[.val (.long q1), .second, .val (.int p2), .val (.long W), .second, .unset, .unset] [(.int (5 : Int32)), (.long W)])) _
    refine st1 _ ?_
    show Steps p.tables e below (T1.setTop (mkF m 93 #[.val (.long q1), .second, .val (.int p2), .val (.long W), .second, .unset, .unset] [(.int (own_low W (5 : Int32)))])) _
    refine XS.ifNo X1.here hx rfl (hb hby at_93) rfl ((if0 _ _).trans (feq (q : ¬ ((own_low W (5 : Int32)) = (0 : Int32)))).1) ?_
    exact st' _ k

set_option maxRecDepth 65536 in
set_option maxHeartbeats 40000000 in
theorem own_a4 {p : Program} {l : Launch} {e : Env} {s : State} {m : MethodId} {args : Array Value} {below : List Frame} {meth : Method} {c : Code} {T0 : State} {locs : List Loc} {Z : State} {a0 : Array Value} {h0 : Heap} {n0 : Nat} (q1 : Int64) (p2 : Int32) (W : Int64)
    (X0 : Stand p l e room_1 s m args below meth c T0 locs 0 0) (hx : p.tables.exec = Jvm.exec) (hZ : Z.Warmed39 s.vm) (hw : ∀ d ∈ tables_1, d.before a0 Z = true) (hby : c.code = code) (hml : c.maxLocals = 7) (hown : s.vm.findClass "com/example/verdicts_from_logs/verdictsfromlogs/EightBytesAsciiPinLaw" = some m.cls) (e0 : T0.heap = h0) (Z0 : n0 ≤ h0.size) (N0 : Fr n0 locs)  :
    ∃ (T' : State) (locs' : List Loc), Stand p l e room_1 s m args below meth c T' locs' 0 0 ∧ T'.heap = h0 ∧ Fr n0 locs' ∧ ∀ t, Steps p.tables e below (T'.setTop (mkF m 119 #[.val (.long q1), .second, .val (.int p2), .val (.long W), .second, .unset, .unset] [(.int (own_ch4 W))])) t → Steps p.tables e below (T0.setTop (mkF m 80 #[.val (.long q1), .second, .val (.int p2), .val (.long W), .second, .unset, .unset] [])) t := by
  obtain ⟨_, _, ⟨T1, L1, k1, n1⟩, -, X1, ⟨Lc1, hQ1, l1, y1, z1⟩, st1⟩ := Jvm.LawKit.callS X0 hx (y := (⟨"com/example/verdicts_from_logs/verdictsfromlogs/EightBytesAsciiPinLaw", "low", "(JI)Z"⟩ : MethodName)) hown (mvT hZ (hw _ (List.mem_of_getElem? (i := 2) rfl))) (mvT hZ (hw _ (List.mem_of_getElem? (i := 3) rfl))) (mvT hZ (hw _ (List.mem_of_getElem? (i := 4) rfl))) (mvT hZ (hw _ (List.mem_of_getElem? (i := 5) rfl))) (by decide) (backOf (W := 0) (rm1 l Z a0 hw [] W (4 : Int32) h0 n0 Z0) hZ (hw _ (List.mem_of_getElem? (i := 5) rfl)) (hw _ (List.mem_of_getElem? (i := 4) rfl)) (by decide) (by decide)) (g := (mkF m 82 #[.val (.long q1), .second, .val (.int p2), .val (.long W), .second, .unset, .unset] [(.int (4 : Int32)), (.long W)])) rfl (by rw [hml]; rfl) (argsL := [(.long W), (.int (4 : Int32))]) (rest := []) (lenOf pd_0 rfl) rfl (by show 2 * 0 + _ ≤ _; exact Nat.le_of_eq rfl) (hb hby at_82) (fun _ _ => ⟨rfl, e0, (by decide : 0 + 0 ≤ _), (by decide : 0 + 0 ≤ _)⟩)
  dsimp only [Pt.U, Pt.locs, Pt.cells, Pt.slots] at X1 l1 y1 z1 st1 hQ1
  subst l1 y1 z1
  obtain ⟨rfl, N1q, e1⟩ := hQ1
  have N1 := Fr.app N0 N1q
  by_cases q : own_low W (4 : Int32) = (0 : Int32)
  · have hv : own_ch4 W = (0 : Int32) := if_pos q
    rw [hv]
    refine ⟨_, _, X1, e1, N1, fun t k => ?_⟩
    show Steps p.tables e below (T0.setTop (mkF m 80 #[.val (.long q1), .second, .val (.int p2), .val (.long W), .second, .unset, .unset] [])) _
    refine XS.lloadN X0.here hx rfl (hb hby at_80) rfl ?_
    show Steps p.tables e below (T0.setTop (mkF m 81 #[.val (.long q1), .second, .val (.int p2), .val (.long W), .second, .unset, .unset] [(.long W)])) _
    refine XS.iconst X0.here hx rfl (hb hby at_81) ?_
    show Steps p.tables e below (T0.setTop (mkF m 82 #[.val (.long q1), .second, .val (.int p2), .val (.long W), .second, .unset, .unset] [(.int (4 : Int32)), (.long W)])) _
    refine st1 _ ?_
    show Steps p.tables e below (T1.setTop (mkF m 85 #[.val (.long q1), .second, .val (.int p2), .val (.long W), .second, .unset, .unset] [(.int (own_low W (4 : Int32)))])) _
    refine XS.ifYes X1.here hx rfl (pc0 := 85) (pc' := 118) rfl (hb hby at_85) rfl ((if0 _ _).trans (teq (q : (own_low W (4 : Int32)) = (0 : Int32))).1) (by decide) (by decide) ?_
    show Steps p.tables e below (T1.setTop (mkF m 118 #[.val (.long q1), .second, .val (.int p2), .val (.long W), .second, .unset, .unset] [])) _
    refine XS.iconst X1.here hx rfl (hb hby at_118) ?_
    exact k
  · have hv : own_ch4 W = own_ch5 W := if_neg q
    rw [hv]
    obtain ⟨T', L', X', e', N', st'⟩ := own_a5 q1 p2 W X1 hx hZ hw hby hml hown e1 Z0 N1
    refine ⟨T', L', X', e', N', fun t k => ?_⟩
    show Steps p.tables e below (T0.setTop (mkF m 80 #[.val (.long q1), .second, .val (.int p2), .val (.long W), .second, .unset, .unset] [])) _
    refine XS.lloadN X0.here hx rfl (hb hby at_80) rfl ?_
    show Steps p.tables e below (T0.setTop (mkF m 81 #[.val (.long q1), .second, .val (.int p2), .val (.long W), .second, .unset, .unset] [(.long W)])) _
    refine XS.iconst X0.here hx rfl (hb hby at_81) ?_
    show Steps p.tables e below (T0.setTop (mkF m 82 #[.val (.long q1), .second, .val (.int p2), .val (.long W), .second, .unset, .unset] [(.int (4 : Int32)), (.long W)])) _
    refine st1 _ ?_
    show Steps p.tables e below (T1.setTop (mkF m 85 #[.val (.long q1), .second, .val (.int p2), .val (.long W), .second, .unset, .unset] [(.int (own_low W (4 : Int32)))])) _
    refine XS.ifNo X1.here hx rfl (hb hby at_85) rfl ((if0 _ _).trans (feq (q : ¬ ((own_low W (4 : Int32)) = (0 : Int32)))).1) ?_
    exact st' _ k

set_option maxRecDepth 65536 in
set_option maxHeartbeats 40000000 in
theorem own_a3 {p : Program} {l : Launch} {e : Env} {s : State} {m : MethodId} {args : Array Value} {below : List Frame} {meth : Method} {c : Code} {T0 : State} {locs : List Loc} {Z : State} {a0 : Array Value} {h0 : Heap} {n0 : Nat} (q1 : Int64) (p2 : Int32) (W : Int64)
    (X0 : Stand p l e room_1 s m args below meth c T0 locs 0 0) (hx : p.tables.exec = Jvm.exec) (hZ : Z.Warmed39 s.vm) (hw : ∀ d ∈ tables_1, d.before a0 Z = true) (hby : c.code = code) (hml : c.maxLocals = 7) (hown : s.vm.findClass "com/example/verdicts_from_logs/verdictsfromlogs/EightBytesAsciiPinLaw" = some m.cls) (e0 : T0.heap = h0) (Z0 : n0 ≤ h0.size) (N0 : Fr n0 locs)  :
    ∃ (T' : State) (locs' : List Loc), Stand p l e room_1 s m args below meth c T' locs' 0 0 ∧ T'.heap = h0 ∧ Fr n0 locs' ∧ ∀ t, Steps p.tables e below (T'.setTop (mkF m 119 #[.val (.long q1), .second, .val (.int p2), .val (.long W), .second, .unset, .unset] [(.int (own_ch3 W))])) t → Steps p.tables e below (T0.setTop (mkF m 72 #[.val (.long q1), .second, .val (.int p2), .val (.long W), .second, .unset, .unset] [])) t := by
  obtain ⟨_, _, ⟨T1, L1, k1, n1⟩, -, X1, ⟨Lc1, hQ1, l1, y1, z1⟩, st1⟩ := Jvm.LawKit.callS X0 hx (y := (⟨"com/example/verdicts_from_logs/verdictsfromlogs/EightBytesAsciiPinLaw", "low", "(JI)Z"⟩ : MethodName)) hown (mvT hZ (hw _ (List.mem_of_getElem? (i := 2) rfl))) (mvT hZ (hw _ (List.mem_of_getElem? (i := 3) rfl))) (mvT hZ (hw _ (List.mem_of_getElem? (i := 4) rfl))) (mvT hZ (hw _ (List.mem_of_getElem? (i := 5) rfl))) (by decide) (backOf (W := 0) (rm1 l Z a0 hw [] W (3 : Int32) h0 n0 Z0) hZ (hw _ (List.mem_of_getElem? (i := 5) rfl)) (hw _ (List.mem_of_getElem? (i := 4) rfl)) (by decide) (by decide)) (g := (mkF m 74 #[.val (.long q1), .second, .val (.int p2), .val (.long W), .second, .unset, .unset] [(.int (3 : Int32)), (.long W)])) rfl (by rw [hml]; rfl) (argsL := [(.long W), (.int (3 : Int32))]) (rest := []) (lenOf pd_0 rfl) rfl (by show 2 * 0 + _ ≤ _; exact Nat.le_of_eq rfl) (hb hby at_74) (fun _ _ => ⟨rfl, e0, (by decide : 0 + 0 ≤ _), (by decide : 0 + 0 ≤ _)⟩)
  dsimp only [Pt.U, Pt.locs, Pt.cells, Pt.slots] at X1 l1 y1 z1 st1 hQ1
  subst l1 y1 z1
  obtain ⟨rfl, N1q, e1⟩ := hQ1
  have N1 := Fr.app N0 N1q
  by_cases q : own_low W (3 : Int32) = (0 : Int32)
  · have hv : own_ch3 W = (0 : Int32) := if_pos q
    rw [hv]
    refine ⟨_, _, X1, e1, N1, fun t k => ?_⟩
    show Steps p.tables e below (T0.setTop (mkF m 72 #[.val (.long q1), .second, .val (.int p2), .val (.long W), .second, .unset, .unset] [])) _
    refine XS.lloadN X0.here hx rfl (hb hby at_72) rfl ?_
    show Steps p.tables e below (T0.setTop (mkF m 73 #[.val (.long q1), .second, .val (.int p2), .val (.long W), .second, .unset, .unset] [(.long W)])) _
    refine XS.iconst X0.here hx rfl (hb hby at_73) ?_
    show Steps p.tables e below (T0.setTop (mkF m 74 #[.val (.long q1), .second, .val (.int p2), .val (.long W), .second, .unset, .unset] [(.int (3 : Int32)), (.long W)])) _
    refine st1 _ ?_
    show Steps p.tables e below (T1.setTop (mkF m 77 #[.val (.long q1), .second, .val (.int p2), .val (.long W), .second, .unset, .unset] [(.int (own_low W (3 : Int32)))])) _
    refine XS.ifYes X1.here hx rfl (pc0 := 77) (pc' := 118) rfl (hb hby at_77) rfl ((if0 _ _).trans (teq (q : (own_low W (3 : Int32)) = (0 : Int32))).1) (by decide) (by decide) ?_
    show Steps p.tables e below (T1.setTop (mkF m 118 #[.val (.long q1), .second, .val (.int p2), .val (.long W), .second, .unset, .unset] [])) _
    refine XS.iconst X1.here hx rfl (hb hby at_118) ?_
    exact k
  · have hv : own_ch3 W = own_ch4 W := if_neg q
    rw [hv]
    obtain ⟨T', L', X', e', N', st'⟩ := own_a4 q1 p2 W X1 hx hZ hw hby hml hown e1 Z0 N1
    refine ⟨T', L', X', e', N', fun t k => ?_⟩
    show Steps p.tables e below (T0.setTop (mkF m 72 #[.val (.long q1), .second, .val (.int p2), .val (.long W), .second, .unset, .unset] [])) _
    refine XS.lloadN X0.here hx rfl (hb hby at_72) rfl ?_
    show Steps p.tables e below (T0.setTop (mkF m 73 #[.val (.long q1), .second, .val (.int p2), .val (.long W), .second, .unset, .unset] [(.long W)])) _
    refine XS.iconst X0.here hx rfl (hb hby at_73) ?_
    show Steps p.tables e below (T0.setTop (mkF m 74 #[.val (.long q1), .second, .val (.int p2), .val (.long W), .second, .unset, .unset] [(.int (3 : Int32)), (.long W)])) _
    refine st1 _ ?_
    show Steps p.tables e below (T1.setTop (mkF m 77 #[.val (.long q1), .second, .val (.int p2), .val (.long W), .second, .unset, .unset] [(.int (own_low W (3 : Int32)))])) _
    refine XS.ifNo X1.here hx rfl (hb hby at_77) rfl ((if0 _ _).trans (feq (q : ¬ ((own_low W (3 : Int32)) = (0 : Int32)))).1) ?_
    exact st' _ k

set_option maxRecDepth 65536 in
set_option maxHeartbeats 40000000 in
theorem own_a2 {p : Program} {l : Launch} {e : Env} {s : State} {m : MethodId} {args : Array Value} {below : List Frame} {meth : Method} {c : Code} {T0 : State} {locs : List Loc} {Z : State} {a0 : Array Value} {h0 : Heap} {n0 : Nat} (q1 : Int64) (p2 : Int32) (W : Int64)
    (X0 : Stand p l e room_1 s m args below meth c T0 locs 0 0) (hx : p.tables.exec = Jvm.exec) (hZ : Z.Warmed39 s.vm) (hw : ∀ d ∈ tables_1, d.before a0 Z = true) (hby : c.code = code) (hml : c.maxLocals = 7) (hown : s.vm.findClass "com/example/verdicts_from_logs/verdictsfromlogs/EightBytesAsciiPinLaw" = some m.cls) (e0 : T0.heap = h0) (Z0 : n0 ≤ h0.size) (N0 : Fr n0 locs)  :
    ∃ (T' : State) (locs' : List Loc), Stand p l e room_1 s m args below meth c T' locs' 0 0 ∧ T'.heap = h0 ∧ Fr n0 locs' ∧ ∀ t, Steps p.tables e below (T'.setTop (mkF m 119 #[.val (.long q1), .second, .val (.int p2), .val (.long W), .second, .unset, .unset] [(.int (own_ch2 W))])) t → Steps p.tables e below (T0.setTop (mkF m 64 #[.val (.long q1), .second, .val (.int p2), .val (.long W), .second, .unset, .unset] [])) t := by
  obtain ⟨_, _, ⟨T1, L1, k1, n1⟩, -, X1, ⟨Lc1, hQ1, l1, y1, z1⟩, st1⟩ := Jvm.LawKit.callS X0 hx (y := (⟨"com/example/verdicts_from_logs/verdictsfromlogs/EightBytesAsciiPinLaw", "low", "(JI)Z"⟩ : MethodName)) hown (mvT hZ (hw _ (List.mem_of_getElem? (i := 2) rfl))) (mvT hZ (hw _ (List.mem_of_getElem? (i := 3) rfl))) (mvT hZ (hw _ (List.mem_of_getElem? (i := 4) rfl))) (mvT hZ (hw _ (List.mem_of_getElem? (i := 5) rfl))) (by decide) (backOf (W := 0) (rm1 l Z a0 hw [] W (2 : Int32) h0 n0 Z0) hZ (hw _ (List.mem_of_getElem? (i := 5) rfl)) (hw _ (List.mem_of_getElem? (i := 4) rfl)) (by decide) (by decide)) (g := (mkF m 66 #[.val (.long q1), .second, .val (.int p2), .val (.long W), .second, .unset, .unset] [(.int (2 : Int32)), (.long W)])) rfl (by rw [hml]; rfl) (argsL := [(.long W), (.int (2 : Int32))]) (rest := []) (lenOf pd_0 rfl) rfl (by show 2 * 0 + _ ≤ _; exact Nat.le_of_eq rfl) (hb hby at_66) (fun _ _ => ⟨rfl, e0, (by decide : 0 + 0 ≤ _), (by decide : 0 + 0 ≤ _)⟩)
  dsimp only [Pt.U, Pt.locs, Pt.cells, Pt.slots] at X1 l1 y1 z1 st1 hQ1
  subst l1 y1 z1
  obtain ⟨rfl, N1q, e1⟩ := hQ1
  have N1 := Fr.app N0 N1q
  by_cases q : own_low W (2 : Int32) = (0 : Int32)
  · have hv : own_ch2 W = (0 : Int32) := if_pos q
    rw [hv]
    refine ⟨_, _, X1, e1, N1, fun t k => ?_⟩
    show Steps p.tables e below (T0.setTop (mkF m 64 #[.val (.long q1), .second, .val (.int p2), .val (.long W), .second, .unset, .unset] [])) _
    refine XS.lloadN X0.here hx rfl (hb hby at_64) rfl ?_
    show Steps p.tables e below (T0.setTop (mkF m 65 #[.val (.long q1), .second, .val (.int p2), .val (.long W), .second, .unset, .unset] [(.long W)])) _
    refine XS.iconst X0.here hx rfl (hb hby at_65) ?_
    show Steps p.tables e below (T0.setTop (mkF m 66 #[.val (.long q1), .second, .val (.int p2), .val (.long W), .second, .unset, .unset] [(.int (2 : Int32)), (.long W)])) _
    refine st1 _ ?_
    show Steps p.tables e below (T1.setTop (mkF m 69 #[.val (.long q1), .second, .val (.int p2), .val (.long W), .second, .unset, .unset] [(.int (own_low W (2 : Int32)))])) _
    refine XS.ifYes X1.here hx rfl (pc0 := 69) (pc' := 118) rfl (hb hby at_69) rfl ((if0 _ _).trans (teq (q : (own_low W (2 : Int32)) = (0 : Int32))).1) (by decide) (by decide) ?_
    show Steps p.tables e below (T1.setTop (mkF m 118 #[.val (.long q1), .second, .val (.int p2), .val (.long W), .second, .unset, .unset] [])) _
    refine XS.iconst X1.here hx rfl (hb hby at_118) ?_
    exact k
  · have hv : own_ch2 W = own_ch3 W := if_neg q
    rw [hv]
    obtain ⟨T', L', X', e', N', st'⟩ := own_a3 q1 p2 W X1 hx hZ hw hby hml hown e1 Z0 N1
    refine ⟨T', L', X', e', N', fun t k => ?_⟩
    show Steps p.tables e below (T0.setTop (mkF m 64 #[.val (.long q1), .second, .val (.int p2), .val (.long W), .second, .unset, .unset] [])) _
    refine XS.lloadN X0.here hx rfl (hb hby at_64) rfl ?_
    show Steps p.tables e below (T0.setTop (mkF m 65 #[.val (.long q1), .second, .val (.int p2), .val (.long W), .second, .unset, .unset] [(.long W)])) _
    refine XS.iconst X0.here hx rfl (hb hby at_65) ?_
    show Steps p.tables e below (T0.setTop (mkF m 66 #[.val (.long q1), .second, .val (.int p2), .val (.long W), .second, .unset, .unset] [(.int (2 : Int32)), (.long W)])) _
    refine st1 _ ?_
    show Steps p.tables e below (T1.setTop (mkF m 69 #[.val (.long q1), .second, .val (.int p2), .val (.long W), .second, .unset, .unset] [(.int (own_low W (2 : Int32)))])) _
    refine XS.ifNo X1.here hx rfl (hb hby at_69) rfl ((if0 _ _).trans (feq (q : ¬ ((own_low W (2 : Int32)) = (0 : Int32)))).1) ?_
    exact st' _ k

set_option maxRecDepth 65536 in
set_option maxHeartbeats 40000000 in
theorem own_a1 {p : Program} {l : Launch} {e : Env} {s : State} {m : MethodId} {args : Array Value} {below : List Frame} {meth : Method} {c : Code} {T0 : State} {locs : List Loc} {Z : State} {a0 : Array Value} {h0 : Heap} {n0 : Nat} (q1 : Int64) (p2 : Int32) (W : Int64)
    (X0 : Stand p l e room_1 s m args below meth c T0 locs 0 0) (hx : p.tables.exec = Jvm.exec) (hZ : Z.Warmed39 s.vm) (hw : ∀ d ∈ tables_1, d.before a0 Z = true) (hby : c.code = code) (hml : c.maxLocals = 7) (hown : s.vm.findClass "com/example/verdicts_from_logs/verdictsfromlogs/EightBytesAsciiPinLaw" = some m.cls) (e0 : T0.heap = h0) (Z0 : n0 ≤ h0.size) (N0 : Fr n0 locs)  :
    ∃ (T' : State) (locs' : List Loc), Stand p l e room_1 s m args below meth c T' locs' 0 0 ∧ T'.heap = h0 ∧ Fr n0 locs' ∧ ∀ t, Steps p.tables e below (T'.setTop (mkF m 119 #[.val (.long q1), .second, .val (.int p2), .val (.long W), .second, .unset, .unset] [(.int (own_ch1 W))])) t → Steps p.tables e below (T0.setTop (mkF m 56 #[.val (.long q1), .second, .val (.int p2), .val (.long W), .second, .unset, .unset] [])) t := by
  obtain ⟨_, _, ⟨T1, L1, k1, n1⟩, -, X1, ⟨Lc1, hQ1, l1, y1, z1⟩, st1⟩ := Jvm.LawKit.callS X0 hx (y := (⟨"com/example/verdicts_from_logs/verdictsfromlogs/EightBytesAsciiPinLaw", "low", "(JI)Z"⟩ : MethodName)) hown (mvT hZ (hw _ (List.mem_of_getElem? (i := 2) rfl))) (mvT hZ (hw _ (List.mem_of_getElem? (i := 3) rfl))) (mvT hZ (hw _ (List.mem_of_getElem? (i := 4) rfl))) (mvT hZ (hw _ (List.mem_of_getElem? (i := 5) rfl))) (by decide) (backOf (W := 0) (rm1 l Z a0 hw [] W (1 : Int32) h0 n0 Z0) hZ (hw _ (List.mem_of_getElem? (i := 5) rfl)) (hw _ (List.mem_of_getElem? (i := 4) rfl)) (by decide) (by decide)) (g := (mkF m 58 #[.val (.long q1), .second, .val (.int p2), .val (.long W), .second, .unset, .unset] [(.int (1 : Int32)), (.long W)])) rfl (by rw [hml]; rfl) (argsL := [(.long W), (.int (1 : Int32))]) (rest := []) (lenOf pd_0 rfl) rfl (by show 2 * 0 + _ ≤ _; exact Nat.le_of_eq rfl) (hb hby at_58) (fun _ _ => ⟨rfl, e0, (by decide : 0 + 0 ≤ _), (by decide : 0 + 0 ≤ _)⟩)
  dsimp only [Pt.U, Pt.locs, Pt.cells, Pt.slots] at X1 l1 y1 z1 st1 hQ1
  subst l1 y1 z1
  obtain ⟨rfl, N1q, e1⟩ := hQ1
  have N1 := Fr.app N0 N1q
  by_cases q : own_low W (1 : Int32) = (0 : Int32)
  · have hv : own_ch1 W = (0 : Int32) := if_pos q
    rw [hv]
    refine ⟨_, _, X1, e1, N1, fun t k => ?_⟩
    show Steps p.tables e below (T0.setTop (mkF m 56 #[.val (.long q1), .second, .val (.int p2), .val (.long W), .second, .unset, .unset] [])) _
    refine XS.lloadN X0.here hx rfl (hb hby at_56) rfl ?_
    show Steps p.tables e below (T0.setTop (mkF m 57 #[.val (.long q1), .second, .val (.int p2), .val (.long W), .second, .unset, .unset] [(.long W)])) _
    refine XS.iconst X0.here hx rfl (hb hby at_57) ?_
    show Steps p.tables e below (T0.setTop (mkF m 58 #[.val (.long q1), .second, .val (.int p2), .val (.long W), .second, .unset, .unset] [(.int (1 : Int32)), (.long W)])) _
    refine st1 _ ?_
    show Steps p.tables e below (T1.setTop (mkF m 61 #[.val (.long q1), .second, .val (.int p2), .val (.long W), .second, .unset, .unset] [(.int (own_low W (1 : Int32)))])) _
    refine XS.ifYes X1.here hx rfl (pc0 := 61) (pc' := 118) rfl (hb hby at_61) rfl ((if0 _ _).trans (teq (q : (own_low W (1 : Int32)) = (0 : Int32))).1) (by decide) (by decide) ?_
    show Steps p.tables e below (T1.setTop (mkF m 118 #[.val (.long q1), .second, .val (.int p2), .val (.long W), .second, .unset, .unset] [])) _
    refine XS.iconst X1.here hx rfl (hb hby at_118) ?_
    exact k
  · have hv : own_ch1 W = own_ch2 W := if_neg q
    rw [hv]
    obtain ⟨T', L', X', e', N', st'⟩ := own_a2 q1 p2 W X1 hx hZ hw hby hml hown e1 Z0 N1
    refine ⟨T', L', X', e', N', fun t k => ?_⟩
    show Steps p.tables e below (T0.setTop (mkF m 56 #[.val (.long q1), .second, .val (.int p2), .val (.long W), .second, .unset, .unset] [])) _
    refine XS.lloadN X0.here hx rfl (hb hby at_56) rfl ?_
    show Steps p.tables e below (T0.setTop (mkF m 57 #[.val (.long q1), .second, .val (.int p2), .val (.long W), .second, .unset, .unset] [(.long W)])) _
    refine XS.iconst X0.here hx rfl (hb hby at_57) ?_
    show Steps p.tables e below (T0.setTop (mkF m 58 #[.val (.long q1), .second, .val (.int p2), .val (.long W), .second, .unset, .unset] [(.int (1 : Int32)), (.long W)])) _
    refine st1 _ ?_
    show Steps p.tables e below (T1.setTop (mkF m 61 #[.val (.long q1), .second, .val (.int p2), .val (.long W), .second, .unset, .unset] [(.int (own_low W (1 : Int32)))])) _
    refine XS.ifNo X1.here hx rfl (hb hby at_61) rfl ((if0 _ _).trans (feq (q : ¬ ((own_low W (1 : Int32)) = (0 : Int32)))).1) ?_
    exact st' _ k

set_option maxRecDepth 65536 in
set_option maxHeartbeats 40000000 in
theorem own_a0 {p : Program} {l : Launch} {e : Env} {s : State} {m : MethodId} {args : Array Value} {below : List Frame} {meth : Method} {c : Code} {T0 : State} {locs : List Loc} {Z : State} {a0 : Array Value} {h0 : Heap} {n0 : Nat} (q1 : Int64) (p2 : Int32) (W : Int64)
    (X0 : Stand p l e room_1 s m args below meth c T0 locs 0 0) (hx : p.tables.exec = Jvm.exec) (hZ : Z.Warmed39 s.vm) (hw : ∀ d ∈ tables_1, d.before a0 Z = true) (hby : c.code = code) (hml : c.maxLocals = 7) (hown : s.vm.findClass "com/example/verdicts_from_logs/verdictsfromlogs/EightBytesAsciiPinLaw" = some m.cls) (e0 : T0.heap = h0) (Z0 : n0 ≤ h0.size) (N0 : Fr n0 locs)  :
    ∃ (T' : State) (locs' : List Loc), Stand p l e room_1 s m args below meth c T' locs' 0 0 ∧ T'.heap = h0 ∧ Fr n0 locs' ∧ ∀ t, Steps p.tables e below (T'.setTop (mkF m 119 #[.val (.long q1), .second, .val (.int p2), .val (.long W), .second, .unset, .unset] [(.int (own_ch0 W))])) t → Steps p.tables e below (T0.setTop (mkF m 48 #[.val (.long q1), .second, .val (.int p2), .val (.long W), .second, .unset, .unset] [])) t := by
  obtain ⟨_, _, ⟨T1, L1, k1, n1⟩, -, X1, ⟨Lc1, hQ1, l1, y1, z1⟩, st1⟩ := Jvm.LawKit.callS X0 hx (y := (⟨"com/example/verdicts_from_logs/verdictsfromlogs/EightBytesAsciiPinLaw", "low", "(JI)Z"⟩ : MethodName)) hown (mvT hZ (hw _ (List.mem_of_getElem? (i := 2) rfl))) (mvT hZ (hw _ (List.mem_of_getElem? (i := 3) rfl))) (mvT hZ (hw _ (List.mem_of_getElem? (i := 4) rfl))) (mvT hZ (hw _ (List.mem_of_getElem? (i := 5) rfl))) (by decide) (backOf (W := 0) (rm1 l Z a0 hw [] W (0 : Int32) h0 n0 Z0) hZ (hw _ (List.mem_of_getElem? (i := 5) rfl)) (hw _ (List.mem_of_getElem? (i := 4) rfl)) (by decide) (by decide)) (g := (mkF m 50 #[.val (.long q1), .second, .val (.int p2), .val (.long W), .second, .unset, .unset] [(.int (0 : Int32)), (.long W)])) rfl (by rw [hml]; rfl) (argsL := [(.long W), (.int (0 : Int32))]) (rest := []) (lenOf pd_0 rfl) rfl (by show 2 * 0 + _ ≤ _; exact Nat.le_of_eq rfl) (hb hby at_50) (fun _ _ => ⟨rfl, e0, (by decide : 0 + 0 ≤ _), (by decide : 0 + 0 ≤ _)⟩)
  dsimp only [Pt.U, Pt.locs, Pt.cells, Pt.slots] at X1 l1 y1 z1 st1 hQ1
  subst l1 y1 z1
  obtain ⟨rfl, N1q, e1⟩ := hQ1
  have N1 := Fr.app N0 N1q
  by_cases q : own_low W (0 : Int32) = (0 : Int32)
  · have hv : own_ch0 W = (0 : Int32) := if_pos q
    rw [hv]
    refine ⟨_, _, X1, e1, N1, fun t k => ?_⟩
    show Steps p.tables e below (T0.setTop (mkF m 48 #[.val (.long q1), .second, .val (.int p2), .val (.long W), .second, .unset, .unset] [])) _
    refine XS.lloadN X0.here hx rfl (hb hby at_48) rfl ?_
    show Steps p.tables e below (T0.setTop (mkF m 49 #[.val (.long q1), .second, .val (.int p2), .val (.long W), .second, .unset, .unset] [(.long W)])) _
    refine XS.iconst X0.here hx rfl (hb hby at_49) ?_
    show Steps p.tables e below (T0.setTop (mkF m 50 #[.val (.long q1), .second, .val (.int p2), .val (.long W), .second, .unset, .unset] [(.int (0 : Int32)), (.long W)])) _
    refine st1 _ ?_
    show Steps p.tables e below (T1.setTop (mkF m 53 #[.val (.long q1), .second, .val (.int p2), .val (.long W), .second, .unset, .unset] [(.int (own_low W (0 : Int32)))])) _
    refine XS.ifYes X1.here hx rfl (pc0 := 53) (pc' := 118) rfl (hb hby at_53) rfl ((if0 _ _).trans (teq (q : (own_low W (0 : Int32)) = (0 : Int32))).1) (by decide) (by decide) ?_
    show Steps p.tables e below (T1.setTop (mkF m 118 #[.val (.long q1), .second, .val (.int p2), .val (.long W), .second, .unset, .unset] [])) _
    refine XS.iconst X1.here hx rfl (hb hby at_118) ?_
    exact k
  · have hv : own_ch0 W = own_ch1 W := if_neg q
    rw [hv]
    obtain ⟨T', L', X', e', N', st'⟩ := own_a1 q1 p2 W X1 hx hZ hw hby hml hown e1 Z0 N1
    refine ⟨T', L', X', e', N', fun t k => ?_⟩
    show Steps p.tables e below (T0.setTop (mkF m 48 #[.val (.long q1), .second, .val (.int p2), .val (.long W), .second, .unset, .unset] [])) _
    refine XS.lloadN X0.here hx rfl (hb hby at_48) rfl ?_
    show Steps p.tables e below (T0.setTop (mkF m 49 #[.val (.long q1), .second, .val (.int p2), .val (.long W), .second, .unset, .unset] [(.long W)])) _
    refine XS.iconst X0.here hx rfl (hb hby at_49) ?_
    show Steps p.tables e below (T0.setTop (mkF m 50 #[.val (.long q1), .second, .val (.int p2), .val (.long W), .second, .unset, .unset] [(.int (0 : Int32)), (.long W)])) _
    refine st1 _ ?_
    show Steps p.tables e below (T1.setTop (mkF m 53 #[.val (.long q1), .second, .val (.int p2), .val (.long W), .second, .unset, .unset] [(.int (own_low W (0 : Int32)))])) _
    refine XS.ifNo X1.here hx rfl (hb hby at_53) rfl ((if0 _ _).trans (feq (q : ¬ ((own_low W (0 : Int32)) = (0 : Int32)))).1) ?_
    exact st' _ k

theorem pd_1 : parseMethodDescriptor "(J)Z" = some ⟨[.long], some .boolean⟩ := by decide +kernel
theorem ef_0a (m : MethodId) (x0 : Int64) (x1 : Int32) : entryFrame m #[(.long x0), (.int x1)] maxLocals = mkF m 0 #[.val (.long x0), .second, .val (.int x1), .unset, .unset, .unset, .unset] [] := by first | (simp [entryFrame, mkF, argsToLocals, Value.category, maxLocals]; done) | rfl
def Q0a (Z : State) (q1 : Int64) (p2 : Int32)  (h0 : Heap) (n0 : Nat) (v : Option Value) (h : Heap) (L : List Loc) : Prop := v = some (.int (1 : Int32)) ∧ Fr n0 L
set_option maxRecDepth 65536 in
set_option maxHeartbeats 40000000 in
theorem rm0a (l : Launch) (Z : State) (a0 : Array Value) (hw : ∀ d ∈ tables_1, d.before a0 Z = true) (ws : List Jvm.Cond) (q1 : Int64) (p2 : Int32)  (h0 : Heap) (n0 : Nat) (Z0 : n0 ≤ h0.size)  (hc5 : ¬ (((p2 >>> ((4 : Int32) &&& 31)) &&& (1 : Int32)) = (0 : Int32))) :
    MetFree l x (head1 (Jvm.Cond.code x code maxLocals ret :: ws) room_1) (fun a U => a = #[(.long q1), (.int p2)] ∧ Z.Warmed39 U.vm ∧ U.heap = h0) (fun _ _ _ _ _ => True) (fun _ U o U' => ∃ v L, o = .returned v ∧ Q0a Z q1 p2  h0 n0 v U'.heap L ∧ FrameEnd U o U' L room_1.cells room_1.slots) := by
  refine MetFree.of_bodySF (plainFor_of_name pn_1) hisR ?_
  intro p e s m args below meth c s₁ Bd hml0 hP hK
  obtain ⟨rfl, hZ, hh⟩ := hP
  have hx := Bd.exec
  have hby := Bd.bytes
  have hml : c.maxLocals = 7 := hml0
  have hown : s.vm.findClass "com/example/verdicts_from_logs/verdictsfromlogs/EightBytesAsciiPinLaw" = some m.cls := findClass_of_methodNamed Bd.named
  have hnm := (name_of_methodNamed Bd.named Bd.method).1
  have X0 : Stand p l e room_1 s m #[(.long q1), (.int p2)] below meth c s₁ [] 0 0 := Stand.of_body Bd
  have e0 : s₁.heap = h0 := by rw [← hh, Bd.state]; rfl
  have N0 := Fr.nil n0
  have pre0 : ∀ t, Steps p.tables e below (s₁.setTop (mkF m 0 #[.val (.long q1), .second, .val (.int p2), .unset, .unset, .unset, .unset] [])) t → Steps p.tables e below (s₁.setTop (entryFrame m #[(.long q1), (.int p2)] maxLocals)) t := fun t k => castTop (ef_0a m q1 p2) k
  obtain ⟨W, hWw⟩ : ∃ z : Int64, z = q1 := ⟨_, rfl⟩
  have stW : ∀ t, Steps p.tables e below (s₁.setTop (mkF m 48 #[.val (.long q1), .second, .val (.int p2), .val (.long W), .second, .unset, .unset] [])) t → Steps p.tables e below (s₁.setTop (mkF m 48 #[.val (.long q1), .second, .val (.int p2), .val (.long q1), .second, .unset, .unset] [])) t := by subst hWw; exact fun _ k => k
  obtain ⟨TC, LC, XC, eC, NC, stc⟩ := own_a0 q1 p2 W X0 hx hZ hw hby hml hown e0 Z0 N0
  obtain ⟨_, _, ⟨T1, L1, k1, n1⟩, -, X1, ⟨Lc1, hQ1, l1, y1, z1⟩, st1⟩ := Jvm.LawKit.callS XC hx (y := (⟨"com/example/verdicts_from_logs/verdictsfromlogs/EightBytes", "ascii", "(J)Z"⟩ : MethodName)) hown (mvT hZ (hw _ (List.mem_of_getElem? (i := 7) rfl))) (mvT hZ (hw _ (List.mem_of_getElem? (i := 8) rfl))) (mvT hZ (hw _ (List.mem_of_getElem? (i := 9) rfl))) (mvT hZ (hw _ (List.mem_of_getElem? (i := 10) rfl))) (by decide) (backOf (W := 0) (rm2 l Z a0 hw [] W h0 n0 Z0) hZ (hw _ (List.mem_of_getElem? (i := 10) rfl)) (hw _ (List.mem_of_getElem? (i := 9) rfl)) (by decide) (by decide)) (g := (mkF m 122 #[.val (.long q1), .second, .val (.int p2), .val (.long W), .second, .val (.int (own_ch0 W)), .unset] [(.long W)])) rfl (by rw [hml]; rfl) (argsL := [(.long W)]) (rest := []) (lenOf pd_1 rfl) rfl (by show 2 * 0 + _ ≤ _; exact Nat.le_of_eq rfl) (hb hby at_122) (fun _ _ => ⟨rfl, eC, (by decide : 0 + 0 ≤ _), (by decide : 0 + 0 ≤ _)⟩)
  dsimp only [Pt.U, Pt.locs, Pt.cells, Pt.slots] at X1 l1 y1 z1 st1 hQ1
  subst l1 y1 z1
  obtain ⟨rfl, N1q, e1⟩ := hQ1
  have N1 := Fr.app NC N1q
  obtain ⟨fs, hr, hrun, hended, hW, hsame⟩ := X1.leave (v := some (.int (1 : Int32))) (fun h => by rw [Bd.returns] at h; cases h)
  refine ⟨_, _, pre0 _ ?_, hrun, hended, _, _, rfl, ?_, ⟨_, rfl⟩, hW, hsame.mono (by decide) (by decide)⟩
  · show Steps p.tables e below (s₁.setTop (mkF m 0 #[.val (.long q1), .second, .val (.int p2), .unset, .unset, .unset, .unset] [])) _
    refine XS.iloadN X0.here hx rfl (hb hby at_0) rfl ?_
    show Steps p.tables e below (s₁.setTop (mkF m 1 #[.val (.long q1), .second, .val (.int p2), .unset, .unset, .unset, .unset] [(.int p2)])) _
    refine XS.iconst X0.here hx rfl (hb hby at_1) ?_
    show Steps p.tables e below (s₁.setTop (mkF m 2 #[.val (.long q1), .second, .val (.int p2), .unset, .unset, .unset, .unset] [(.int (4 : Int32)), (.int p2)])) _
    refine XS.ishr X0.here hx rfl (hb hby at_2) rfl ?_
    show Steps p.tables e below (s₁.setTop (mkF m 3 #[.val (.long q1), .second, .val (.int p2), .unset, .unset, .unset, .unset] [(.int (p2 >>> ((4 : Int32) &&& 31)))])) _
    refine XS.iconst X0.here hx rfl (hb hby at_3) ?_
    show Steps p.tables e below (s₁.setTop (mkF m 4 #[.val (.long q1), .second, .val (.int p2), .unset, .unset, .unset, .unset] [(.int (1 : Int32)), (.int (p2 >>> ((4 : Int32) &&& 31)))])) _
    refine XS.iand X0.here hx rfl (hb hby at_4) rfl ?_
    show Steps p.tables e below (s₁.setTop (mkF m 5 #[.val (.long q1), .second, .val (.int p2), .unset, .unset, .unset, .unset] [(.int ((p2 >>> ((4 : Int32) &&& 31)) &&& (1 : Int32)))])) _
    refine XS.ifNo X0.here hx rfl (hb hby at_5) rfl ((if0 _ _).trans (feq (hc5 : ¬ (((p2 >>> ((4 : Int32) &&& 31)) &&& (1 : Int32)) = (0 : Int32)))).1) ?_
    show Steps p.tables e below (s₁.setTop (mkF m 8 #[.val (.long q1), .second, .val (.int p2), .unset, .unset, .unset, .unset] [])) _
    refine XS.lloadN X0.here hx rfl (hb hby at_8) rfl ?_
    show Steps p.tables e below (s₁.setTop (mkF m 9 #[.val (.long q1), .second, .val (.int p2), .unset, .unset, .unset, .unset] [(.long q1)])) _
    refine XS.lstoreN X0.here hx rfl (hb hby at_9) rfl (l' := #[.val (.long q1), .second, .val (.int p2), .val (.long q1), .second, .unset, .unset]) rfl ?_
    show Steps p.tables e below (s₁.setTop (mkF m 10 #[.val (.long q1), .second, .val (.int p2), .val (.long q1), .second, .unset, .unset] [])) _
    refine XS.goto X0.here hx rfl (pc0 := 10) (pc' := 48) rfl (hb hby at_10) (by decide) (by decide) ?_
    show Steps p.tables e below (s₁.setTop (mkF m 48 #[.val (.long q1), .second, .val (.int p2), .val (.long q1), .second, .unset, .unset] [])) _
    refine stW _ ?_
    show Steps p.tables e below (s₁.setTop (mkF m 48 #[.val (.long q1), .second, .val (.int p2), .val (.long W), .second, .unset, .unset] [])) _
    refine stc _ ?_
    show Steps p.tables e below (TC.setTop (mkF m 119 #[.val (.long q1), .second, .val (.int p2), .val (.long W), .second, .unset, .unset] [(.int (own_ch0 W))])) _
    refine XS.istore XC.here hx rfl (hb hby at_119) rfl (l' := #[.val (.long q1), .second, .val (.int p2), .val (.long W), .second, .val (.int (own_ch0 W)), .unset]) rfl ?_
    show Steps p.tables e below (TC.setTop (mkF m 121 #[.val (.long q1), .second, .val (.int p2), .val (.long W), .second, .val (.int (own_ch0 W)), .unset] [])) _
    refine XS.lloadN XC.here hx rfl (hb hby at_121) rfl ?_
    show Steps p.tables e below (TC.setTop (mkF m 122 #[.val (.long q1), .second, .val (.int p2), .val (.long W), .second, .val (.int (own_ch0 W)), .unset] [(.long W)])) _
    refine st1 _ ?_
    show Steps p.tables e below (T1.setTop (mkF m 125 #[.val (.long q1), .second, .val (.int p2), .val (.long W), .second, .val (.int (own_ch0 W)), .unset] [(.int (own_asc W))])) _
    refine XS.iload X1.here hx rfl (hb hby at_125) rfl ?_
    show Steps p.tables e below (T1.setTop (mkF m 127 #[.val (.long q1), .second, .val (.int p2), .val (.long W), .second, .val (.int (own_ch0 W)), .unset] [(.int (own_ch0 W)), (.int (own_asc W))])) _
    refine XS.icmpNo X1.here hx rfl (hb hby at_127) rfl (teq (own_main W : (own_asc W) = (own_ch0 W))).2 ?_
    show Steps p.tables e below (T1.setTop (mkF m 130 #[.val (.long q1), .second, .val (.int p2), .val (.long W), .second, .val (.int (own_ch0 W)), .unset] [])) _
    refine XS.iconst X1.here hx rfl (hb hby at_130) ?_
    show Steps p.tables e below (T1.setTop (mkF m 131 #[.val (.long q1), .second, .val (.int p2), .val (.long W), .second, .val (.int (own_ch0 W)), .unset] [(.int (1 : Int32))])) _
    refine XS.goto X1.here hx rfl (pc0 := 131) (pc' := 135) rfl (hb hby at_131) (by decide) (by decide) ?_
    show Steps p.tables e below (T1.setTop (mkF m 135 #[.val (.long q1), .second, .val (.int p2), .val (.long W), .second, .val (.int (own_ch0 W)), .unset] [(.int (1 : Int32))])) _
    exact retN X1 hx (t := .boolean) Bd.returns (by simp) (hb hby at_135) hr
  · show Q0a Z q1 p2  h0 n0 _ T1.heap _
    rw [e1]
    exact ⟨rfl, N1⟩

set_option maxRecDepth 65536 in
set_option maxHeartbeats 40000000 in
theorem own_b7 {p : Program} {l : Launch} {e : Env} {s : State} {m : MethodId} {args : Array Value} {below : List Frame} {meth : Method} {c : Code} {T0 : State} {locs : List Loc} {Z : State} {a0 : Array Value} {h0 : Heap} {n0 : Nat} (q1 : Int64) (p2 : Int32) (W : Int64) (C : Int64)
    (X0 : Stand p l e room_1 s m args below meth c T0 locs 0 0) (hx : p.tables.exec = Jvm.exec) (hZ : Z.Warmed39 s.vm) (hw : ∀ d ∈ tables_1, d.before a0 Z = true) (hby : c.code = code) (hml : c.maxLocals = 7) (hown : s.vm.findClass "com/example/verdicts_from_logs/verdictsfromlogs/EightBytesAsciiPinLaw" = some m.cls) (e0 : T0.heap = h0) (Z0 : n0 ≤ h0.size) (N0 : Fr n0 locs)  :
    ∃ (T' : State) (locs' : List Loc), Stand p l e room_1 s m args below meth c T' locs' 0 0 ∧ T'.heap = h0 ∧ Fr n0 locs' ∧ ∀ t, Steps p.tables e below (T'.setTop (mkF m 119 #[.val (.long q1), .second, .val (.int p2), .val (.long W), .second, .val (.long C), .second] [(.int (own_ch7 W))])) t → Steps p.tables e below (T0.setTop (mkF m 105 #[.val (.long q1), .second, .val (.int p2), .val (.long W), .second, .val (.long C), .second] [])) t := by
  obtain ⟨_, _, ⟨T1, L1, k1, n1⟩, -, X1, ⟨Lc1, hQ1, l1, y1, z1⟩, st1⟩ := Jvm.LawKit.callS X0 hx (y := (⟨"com/example/verdicts_from_logs/verdictsfromlogs/EightBytesAsciiPinLaw", "low", "(JI)Z"⟩ : MethodName)) hown (mvT hZ (hw _ (List.mem_of_getElem? (i := 2) rfl))) (mvT hZ (hw _ (List.mem_of_getElem? (i := 3) rfl))) (mvT hZ (hw _ (List.mem_of_getElem? (i := 4) rfl))) (mvT hZ (hw _ (List.mem_of_getElem? (i := 5) rfl))) (by decide) (backOf (W := 0) (rm1 l Z a0 hw [] W (7 : Int32) h0 n0 Z0) hZ (hw _ (List.mem_of_getElem? (i := 5) rfl)) (hw _ (List.mem_of_getElem? (i := 4) rfl)) (by decide) (by decide)) (g := (mkF m 108 #[.val (.long q1), .second, .val (.int p2), .val (.long W), .second, .val (.long C), .second] [(.int (7 : Int32)), (.long W)])) rfl (by rw [hml]; rfl) (argsL := [(.long W), (.int (7 : Int32))]) (rest := []) (lenOf pd_0 rfl) rfl (by show 2 * 0 + _ ≤ _; exact Nat.le_of_eq rfl) (hb hby at_108) (fun _ _ => ⟨rfl, e0, (by decide : 0 + 0 ≤ _), (by decide : 0 + 0 ≤ _)⟩)
  dsimp only [Pt.U, Pt.locs, Pt.cells, Pt.slots] at X1 l1 y1 z1 st1 hQ1
  subst l1 y1 z1
  obtain ⟨rfl, N1q, e1⟩ := hQ1
  have N1 := Fr.app N0 N1q
  by_cases q : own_low W (7 : Int32) = (0 : Int32)
  · have hv : own_ch7 W = (0 : Int32) := if_pos q
    rw [hv]
    refine ⟨_, _, X1, e1, N1, fun t k => ?_⟩
    show Steps p.tables e below (T0.setTop (mkF m 105 #[.val (.long q1), .second, .val (.int p2), .val (.long W), .second, .val (.long C), .second] [])) _
    refine XS.lloadN X0.here hx rfl (hb hby at_105) rfl ?_
    show Steps p.tables e below (T0.setTop (mkF m 106 #[.val (.long q1), .second, .val (.int p2), .val (.long W), .second, .val (.long C), .second] [(.long W)])) _
    refine XS.bipush X0.here hx rfl (hb hby at_106) ?_
    show Steps p.tables e below (T0.setTop (mkF m 108 #[.val (.long q1), .second, .val (.int p2), .val (.long W), .second, .val (.long C), .second] [(.int (7 : Int32)), (.long W)])) _
    refine st1 _ ?_
    show Steps p.tables e below (T1.setTop (mkF m 111 #[.val (.long q1), .second, .val (.int p2), .val (.long W), .second, .val (.long C), .second] [(.int (own_low W (7 : Int32)))])) _
    refine XS.ifYes X1.here hx rfl (pc0 := 111) (pc' := 118) rfl (hb hby at_111) rfl ((if0 _ _).trans (teq (q : (own_low W (7 : Int32)) = (0 : Int32))).1) (by decide) (by decide) ?_
    show Steps p.tables e below (T1.setTop (mkF m 118 #[.val (.long q1), .second, .val (.int p2), .val (.long W), .second, .val (.long C), .second] [])) _
    refine XS.iconst X1.here hx rfl (hb hby at_118) ?_
    exact k
  · have hv : own_ch7 W = (1 : Int32) := if_neg q
    rw [hv]
    refine ⟨_, _, X1, e1, N1, fun t k => ?_⟩
    show Steps p.tables e below (T0.setTop (mkF m 105 #[.val (.long q1), .second, .val (.int p2), .val (.long W), .second, .val (.long C), .second] [])) _
    refine XS.lloadN X0.here hx rfl (hb hby at_105) rfl ?_
    show Steps p.tables e below (T0.setTop (mkF m 106 #[.val (.long q1), .second, .val (.int p2), .val (.long W), .second, .val (.long C), .second] [(.long W)])) _
    refine XS.bipush X0.here hx rfl (hb hby at_106) ?_
    show Steps p.tables e below (T0.setTop (mkF m 108 #[.val (.long q1), .second, .val (.int p2), .val (.long W), .second, .val (.long C), .second] [(.int (7 : Int32)), (.long W)])) _
    refine st1 _ ?_
    show Steps p.tables e below (T1.setTop (mkF m 111 #[.val (.long q1), .second, .val (.int p2), .val (.long W), .second, .val (.long C), .second] [(.int (own_low W (7 : Int32)))])) _
    refine XS.ifNo X1.here hx rfl (hb hby at_111) rfl ((if0 _ _).trans (feq (q : ¬ ((own_low W (7 : Int32)) = (0 : Int32)))).1) ?_
    show Steps p.tables e below (T1.setTop (mkF m 114 #[.val (.long q1), .second, .val (.int p2), .val (.long W), .second, .val (.long C), .second] [])) _
    refine XS.iconst X1.here hx rfl (hb hby at_114) ?_
    show Steps p.tables e below (T1.setTop (mkF m 115 #[.val (.long q1), .second, .val (.int p2), .val (.long W), .second, .val (.long C), .second] [(.int (1 : Int32))])) _
    refine XS.goto X1.here hx rfl (pc0 := 115) (pc' := 119) rfl (hb hby at_115) (by decide) (by decide) ?_
    exact k

set_option maxRecDepth 65536 in
set_option maxHeartbeats 40000000 in
theorem own_b6 {p : Program} {l : Launch} {e : Env} {s : State} {m : MethodId} {args : Array Value} {below : List Frame} {meth : Method} {c : Code} {T0 : State} {locs : List Loc} {Z : State} {a0 : Array Value} {h0 : Heap} {n0 : Nat} (q1 : Int64) (p2 : Int32) (W : Int64) (C : Int64)
    (X0 : Stand p l e room_1 s m args below meth c T0 locs 0 0) (hx : p.tables.exec = Jvm.exec) (hZ : Z.Warmed39 s.vm) (hw : ∀ d ∈ tables_1, d.before a0 Z = true) (hby : c.code = code) (hml : c.maxLocals = 7) (hown : s.vm.findClass "com/example/verdicts_from_logs/verdictsfromlogs/EightBytesAsciiPinLaw" = some m.cls) (e0 : T0.heap = h0) (Z0 : n0 ≤ h0.size) (N0 : Fr n0 locs)  :
    ∃ (T' : State) (locs' : List Loc), Stand p l e room_1 s m args below meth c T' locs' 0 0 ∧ T'.heap = h0 ∧ Fr n0 locs' ∧ ∀ t, Steps p.tables e below (T'.setTop (mkF m 119 #[.val (.long q1), .second, .val (.int p2), .val (.long W), .second, .val (.long C), .second] [(.int (own_ch6 W))])) t → Steps p.tables e below (T0.setTop (mkF m 96 #[.val (.long q1), .second, .val (.int p2), .val (.long W), .second, .val (.long C), .second] [])) t := by
  obtain ⟨_, _, ⟨T1, L1, k1, n1⟩, -, X1, ⟨Lc1, hQ1, l1, y1, z1⟩, st1⟩ := Jvm.LawKit.callS X0 hx (y := (⟨"com/example/verdicts_from_logs/verdictsfromlogs/EightBytesAsciiPinLaw", "low", "(JI)Z"⟩ : MethodName)) hown (mvT hZ (hw _ (List.mem_of_getElem? (i := 2) rfl))) (mvT hZ (hw _ (List.mem_of_getElem? (i := 3) rfl))) (mvT hZ (hw _ (List.mem_of_getElem? (i := 4) rfl))) (mvT hZ (hw _ (List.mem_of_getElem? (i := 5) rfl))) (by decide) (backOf (W := 0) (rm1 l Z a0 hw [] W (6 : Int32) h0 n0 Z0) hZ (hw _ (List.mem_of_getElem? (i := 5) rfl)) (hw _ (List.mem_of_getElem? (i := 4) rfl)) (by decide) (by decide)) (g := (mkF m 99 #[.val (.long q1), .second, .val (.int p2), .val (.long W), .second, .val (.long C), .second] [(.int (6 : Int32)), (.long W)])) rfl (by rw [hml]; rfl) (argsL := [(.long W), (.int (6 : Int32))]) (rest := []) (lenOf pd_0 rfl) rfl (by show 2 * 0 + _ ≤ _; exact Nat.le_of_eq rfl) (hb hby at_99) (fun _ _ => ⟨rfl, e0, (by decide : 0 + 0 ≤ _), (by decide : 0 + 0 ≤ _)⟩)
  dsimp only [Pt.U, Pt.locs, Pt.cells, Pt.slots] at X1 l1 y1 z1 st1 hQ1
  subst l1 y1 z1
  obtain ⟨rfl, N1q, e1⟩ := hQ1
  have N1 := Fr.app N0 N1q
  by_cases q : own_low W (6 : Int32) = (0 : Int32)
  · have hv : own_ch6 W = (0 : Int32) := if_pos q
    rw [hv]
    refine ⟨_, _, X1, e1, N1, fun t k => ?_⟩
    show Steps p.tables e below (T0.setTop (mkF m 96 #[.val (.long q1), .second, .val (.int p2), .val (.long W), .second, .val (.long C), .second] [])) _
    refine XS.lloadN X0.here hx rfl (hb hby at_96) rfl ?_
    show Steps p.tables e below (T0.setTop (mkF m 97 #[.val (.long q1), .second, .val (.int p2), .val (.long W), .second, .val (.long C), .second] [(.long W)])) _
    refine XS.bipush X0.here hx rfl (hb hby at_97) ?_
    show Steps p.tables e below (T0.setTop (mkF m 99 #[.val (.long q1), .second, .val (.int p2), .val (.long W), .second, .val (.long C), .second] [(.int (6 : Int32)), (.long W)])) _
    refine st1 _ ?_
    show Steps p.tables e below (T1.setTop (mkF m 102 #[.val (.long q1), .second, .val (.int p2), .val (.long W), .second, .val (.long C), .second] [(.int (own_low W (6 : Int32)))])) _
    refine XS.ifYes X1.here hx rfl (pc0 := 102) (pc' := 118) rfl (hb hby at_102) rfl ((if0 _ _).trans (teq (q : (own_low W (6 : Int32)) = (0 : Int32))).1) (by decide) (by decide) ?_
    show Steps p.tables e below (T1.setTop (mkF m 118 #[.val (.long q1), .second, .val (.int p2), .val (.long W), .second, .val (.long C), .second] [])) _
    refine XS.iconst X1.here hx rfl (hb hby at_118) ?_
    exact k
  · have hv : own_ch6 W = own_ch7 W := if_neg q
    rw [hv]
    obtain ⟨T', L', X', e', N', st'⟩ := own_b7 q1 p2 W C X1 hx hZ hw hby hml hown e1 Z0 N1
    refine ⟨T', L', X', e', N', fun t k => ?_⟩
    show Steps p.tables e below (T0.setTop (mkF m 96 #[.val (.long q1), .second, .val (.int p2), .val (.long W), .second, .val (.long C), .second] [])) _
    refine XS.lloadN X0.here hx rfl (hb hby at_96) rfl ?_
    show Steps p.tables e below (T0.setTop (mkF m 97 #[.val (.long q1), .second, .val (.int p2), .val (.long W), .second, .val (.long C), .second] [(.long W)])) _
    refine XS.bipush X0.here hx rfl (hb hby at_97) ?_
    show Steps p.tables e below (T0.setTop (mkF m 99 #[.val (.long q1), .second, .val (.int p2), .val (.long W), .second, .val (.long C), .second] [(.int (6 : Int32)), (.long W)])) _
    refine st1 _ ?_
    show Steps p.tables e below (T1.setTop (mkF m 102 #[.val (.long q1), .second, .val (.int p2), .val (.long W), .second, .val (.long C), .second] [(.int (own_low W (6 : Int32)))])) _
    refine XS.ifNo X1.here hx rfl (hb hby at_102) rfl ((if0 _ _).trans (feq (q : ¬ ((own_low W (6 : Int32)) = (0 : Int32)))).1) ?_
    exact st' _ k

set_option maxRecDepth 65536 in
set_option maxHeartbeats 40000000 in
theorem own_b5 {p : Program} {l : Launch} {e : Env} {s : State} {m : MethodId} {args : Array Value} {below : List Frame} {meth : Method} {c : Code} {T0 : State} {locs : List Loc} {Z : State} {a0 : Array Value} {h0 : Heap} {n0 : Nat} (q1 : Int64) (p2 : Int32) (W : Int64) (C : Int64)
    (X0 : Stand p l e room_1 s m args below meth c T0 locs 0 0) (hx : p.tables.exec = Jvm.exec) (hZ : Z.Warmed39 s.vm) (hw : ∀ d ∈ tables_1, d.before a0 Z = true) (hby : c.code = code) (hml : c.maxLocals = 7) (hown : s.vm.findClass "com/example/verdicts_from_logs/verdictsfromlogs/EightBytesAsciiPinLaw" = some m.cls) (e0 : T0.heap = h0) (Z0 : n0 ≤ h0.size) (N0 : Fr n0 locs)  :
    ∃ (T' : State) (locs' : List Loc), Stand p l e room_1 s m args below meth c T' locs' 0 0 ∧ T'.heap = h0 ∧ Fr n0 locs' ∧ ∀ t, Steps p.tables e below (T'.setTop (mkF m 119 #[.val (.long q1), .second, .val (.int p2), .val (.long W), .second, .val (.long C), .second] [(.int (own_ch5 W))])) t → Steps p.tables e below (T0.setTop (mkF m 88 #[.val (.long q1), .second, .val (.int p2), .val (.long W), .second, .val (.long C), .second] [])) t := by
  obtain ⟨_, _, ⟨T1, L1, k1, n1⟩, -, X1, ⟨Lc1, hQ1, l1, y1, z1⟩, st1⟩ := Jvm.LawKit.callS X0 hx (y := (⟨"com/example/verdicts_from_logs/verdictsfromlogs/EightBytesAsciiPinLaw", "low", "(JI)Z"⟩ : MethodName)) hown (mvT hZ (hw _ (List.mem_of_getElem? (i := 2) rfl))) (mvT hZ (hw _ (List.mem_of_getElem? (i := 3) rfl))) (mvT hZ (hw _ (List.mem_of_getElem? (i := 4) rfl))) (mvT hZ (hw _ (List.mem_of_getElem? (i := 5) rfl))) (by decide) (backOf (W := 0) (rm1 l Z a0 hw [] W (5 : Int32) h0 n0 Z0) hZ (hw _ (List.mem_of_getElem? (i := 5) rfl)) (hw _ (List.mem_of_getElem? (i := 4) rfl)) (by decide) (by decide)) (g := (mkF m 90 #[.val (.long q1), .second, .val (.int p2), .val (.long W), .second, .val (.long C), .second] [(.int (5 : Int32)), (.long W)])) rfl (by rw [hml]; rfl) (argsL := [(.long W), (.int (5 : Int32))]) (rest := []) (lenOf pd_0 rfl) rfl (by show 2 * 0 + _ ≤ _; exact Nat.le_of_eq rfl) (hb hby at_90) (fun _ _ => ⟨rfl, e0, (by decide : 0 + 0 ≤ _), (by decide : 0 + 0 ≤ _)⟩)
  dsimp only [Pt.U, Pt.locs, Pt.cells, Pt.slots] at X1 l1 y1 z1 st1 hQ1
  subst l1 y1 z1
  obtain ⟨rfl, N1q, e1⟩ := hQ1
  have N1 := Fr.app N0 N1q
  by_cases q : own_low W (5 : Int32) = (0 : Int32)
  · have hv : own_ch5 W = (0 : Int32) := if_pos q
    rw [hv]
    refine ⟨_, _, X1, e1, N1, fun t k => ?_⟩
    show Steps p.tables e below (T0.setTop (mkF m 88 #[.val (.long q1), .second, .val (.int p2), .val (.long W), .second, .val (.long C), .second] [])) _
    refine XS.lloadN X0.here hx rfl (hb hby at_88) rfl ?_
    show Steps p.tables e below (T0.setTop (mkF m 89 #[.val (.long q1), .second, .val (.int p2), .val (.long W), .second, .val (.long C), .second] [(.long W)])) _
    refine XS.iconst X0.here hx rfl (hb hby at_89) ?_
    show Steps p.tables e below (T0.setTop (mkF m 90 #[.val (.long q1), .second, .val (.int p2), .val (.long W), .second, .val (.long C), .second] [(.int (5 : Int32)), (.long W)])) _
    refine st1 _ ?_
    show Steps p.tables e below (T1.setTop (mkF m 93 #[.val (.long q1), .second, .val (.int p2), .val (.long W), .second, .val (.long C), .second] [(.int (own_low W (5 : Int32)))])) _
    refine XS.ifYes X1.here hx rfl (pc0 := 93) (pc' := 118) rfl (hb hby at_93) rfl ((if0 _ _).trans (teq (q : (own_low W (5 : Int32)) = (0 : Int32))).1) (by decide) (by decide) ?_
    show Steps p.tables e below (T1.setTop (mkF m 118 #[.val (.long q1), .second, .val (.int p2), .val (.long W), .second, .val (.long C), .second] [])) _
    refine XS.iconst X1.here hx rfl (hb hby at_118) ?_
    exact k
  · have hv : own_ch5 W = own_ch6 W := if_neg q
    rw [hv]
    obtain ⟨T', L', X', e', N', st'⟩ := own_b6 q1 p2 W C X1 hx hZ hw hby hml hown e1 Z0 N1
    refine ⟨T', L', X', e', N', fun t k => ?_⟩
    show Steps p.tables e below (T0.setTop (mkF m 88 #[.val (.long q1), .second, .val (.int p2), .val (.long W), .second, .val (.long C), .second] [])) _
    refine XS.lloadN X0.here hx rfl (hb hby at_88) rfl ?_
    show Steps p.tables e below (T0.setTop (mkF m 89 #[.val (.long q1), .second, .val (.int p2), .val (.long W), .second, .val (.long C), .second] [(.long W)])) _
    refine XS.iconst X0.here hx rfl (hb hby at_89) ?_
    show Steps p.tables e below (T0.setTop (mkF m 90 #[.val (.long q1), .second, .val (.int p2), .val (.long W), .second, .val (.long C), .second] [(.int (5 : Int32)), (.long W)])) _
    refine st1 _ ?_
    show Steps p.tables e below (T1.setTop (mkF m 93 #[.val (.long q1), .second, .val (.int p2), .val (.long W), .second, .val (.long C), .second] [(.int (own_low W (5 : Int32)))])) _
    refine XS.ifNo X1.here hx rfl (hb hby at_93) rfl ((if0 _ _).trans (feq (q : ¬ ((own_low W (5 : Int32)) = (0 : Int32)))).1) ?_
    exact st' _ k

set_option maxRecDepth 65536 in
set_option maxHeartbeats 40000000 in
theorem own_b4 {p : Program} {l : Launch} {e : Env} {s : State} {m : MethodId} {args : Array Value} {below : List Frame} {meth : Method} {c : Code} {T0 : State} {locs : List Loc} {Z : State} {a0 : Array Value} {h0 : Heap} {n0 : Nat} (q1 : Int64) (p2 : Int32) (W : Int64) (C : Int64)
    (X0 : Stand p l e room_1 s m args below meth c T0 locs 0 0) (hx : p.tables.exec = Jvm.exec) (hZ : Z.Warmed39 s.vm) (hw : ∀ d ∈ tables_1, d.before a0 Z = true) (hby : c.code = code) (hml : c.maxLocals = 7) (hown : s.vm.findClass "com/example/verdicts_from_logs/verdictsfromlogs/EightBytesAsciiPinLaw" = some m.cls) (e0 : T0.heap = h0) (Z0 : n0 ≤ h0.size) (N0 : Fr n0 locs)  :
    ∃ (T' : State) (locs' : List Loc), Stand p l e room_1 s m args below meth c T' locs' 0 0 ∧ T'.heap = h0 ∧ Fr n0 locs' ∧ ∀ t, Steps p.tables e below (T'.setTop (mkF m 119 #[.val (.long q1), .second, .val (.int p2), .val (.long W), .second, .val (.long C), .second] [(.int (own_ch4 W))])) t → Steps p.tables e below (T0.setTop (mkF m 80 #[.val (.long q1), .second, .val (.int p2), .val (.long W), .second, .val (.long C), .second] [])) t := by
  obtain ⟨_, _, ⟨T1, L1, k1, n1⟩, -, X1, ⟨Lc1, hQ1, l1, y1, z1⟩, st1⟩ := Jvm.LawKit.callS X0 hx (y := (⟨"com/example/verdicts_from_logs/verdictsfromlogs/EightBytesAsciiPinLaw", "low", "(JI)Z"⟩ : MethodName)) hown (mvT hZ (hw _ (List.mem_of_getElem? (i := 2) rfl))) (mvT hZ (hw _ (List.mem_of_getElem? (i := 3) rfl))) (mvT hZ (hw _ (List.mem_of_getElem? (i := 4) rfl))) (mvT hZ (hw _ (List.mem_of_getElem? (i := 5) rfl))) (by decide) (backOf (W := 0) (rm1 l Z a0 hw [] W (4 : Int32) h0 n0 Z0) hZ (hw _ (List.mem_of_getElem? (i := 5) rfl)) (hw _ (List.mem_of_getElem? (i := 4) rfl)) (by decide) (by decide)) (g := (mkF m 82 #[.val (.long q1), .second, .val (.int p2), .val (.long W), .second, .val (.long C), .second] [(.int (4 : Int32)), (.long W)])) rfl (by rw [hml]; rfl) (argsL := [(.long W), (.int (4 : Int32))]) (rest := []) (lenOf pd_0 rfl) rfl (by show 2 * 0 + _ ≤ _; exact Nat.le_of_eq rfl) (hb hby at_82) (fun _ _ => ⟨rfl, e0, (by decide : 0 + 0 ≤ _), (by decide : 0 + 0 ≤ _)⟩)
  dsimp only [Pt.U, Pt.locs, Pt.cells, Pt.slots] at X1 l1 y1 z1 st1 hQ1
  subst l1 y1 z1
  obtain ⟨rfl, N1q, e1⟩ := hQ1
  have N1 := Fr.app N0 N1q
  by_cases q : own_low W (4 : Int32) = (0 : Int32)
  · have hv : own_ch4 W = (0 : Int32) := if_pos q
    rw [hv]
    refine ⟨_, _, X1, e1, N1, fun t k => ?_⟩
    show Steps p.tables e below (T0.setTop (mkF m 80 #[.val (.long q1), .second, .val (.int p2), .val (.long W), .second, .val (.long C), .second] [])) _
    refine XS.lloadN X0.here hx rfl (hb hby at_80) rfl ?_
    show Steps p.tables e below (T0.setTop (mkF m 81 #[.val (.long q1), .second, .val (.int p2), .val (.long W), .second, .val (.long C), .second] [(.long W)])) _
    refine XS.iconst X0.here hx rfl (hb hby at_81) ?_
    show Steps p.tables e below (T0.setTop (mkF m 82 #[.val (.long q1), .second, .val (.int p2), .val (.long W), .second, .val (.long C), .second] [(.int (4 : Int32)), (.long W)])) _
    refine st1 _ ?_
    show Steps p.tables e below (T1.setTop (mkF m 85 #[.val (.long q1), .second, .val (.int p2), .val (.long W), .second, .val (.long C), .second] [(.int (own_low W (4 : Int32)))])) _
    refine XS.ifYes X1.here hx rfl (pc0 := 85) (pc' := 118) rfl (hb hby at_85) rfl ((if0 _ _).trans (teq (q : (own_low W (4 : Int32)) = (0 : Int32))).1) (by decide) (by decide) ?_
    show Steps p.tables e below (T1.setTop (mkF m 118 #[.val (.long q1), .second, .val (.int p2), .val (.long W), .second, .val (.long C), .second] [])) _
    refine XS.iconst X1.here hx rfl (hb hby at_118) ?_
    exact k
  · have hv : own_ch4 W = own_ch5 W := if_neg q
    rw [hv]
    obtain ⟨T', L', X', e', N', st'⟩ := own_b5 q1 p2 W C X1 hx hZ hw hby hml hown e1 Z0 N1
    refine ⟨T', L', X', e', N', fun t k => ?_⟩
    show Steps p.tables e below (T0.setTop (mkF m 80 #[.val (.long q1), .second, .val (.int p2), .val (.long W), .second, .val (.long C), .second] [])) _
    refine XS.lloadN X0.here hx rfl (hb hby at_80) rfl ?_
    show Steps p.tables e below (T0.setTop (mkF m 81 #[.val (.long q1), .second, .val (.int p2), .val (.long W), .second, .val (.long C), .second] [(.long W)])) _
    refine XS.iconst X0.here hx rfl (hb hby at_81) ?_
    show Steps p.tables e below (T0.setTop (mkF m 82 #[.val (.long q1), .second, .val (.int p2), .val (.long W), .second, .val (.long C), .second] [(.int (4 : Int32)), (.long W)])) _
    refine st1 _ ?_
    show Steps p.tables e below (T1.setTop (mkF m 85 #[.val (.long q1), .second, .val (.int p2), .val (.long W), .second, .val (.long C), .second] [(.int (own_low W (4 : Int32)))])) _
    refine XS.ifNo X1.here hx rfl (hb hby at_85) rfl ((if0 _ _).trans (feq (q : ¬ ((own_low W (4 : Int32)) = (0 : Int32)))).1) ?_
    exact st' _ k

set_option maxRecDepth 65536 in
set_option maxHeartbeats 40000000 in
theorem own_b3 {p : Program} {l : Launch} {e : Env} {s : State} {m : MethodId} {args : Array Value} {below : List Frame} {meth : Method} {c : Code} {T0 : State} {locs : List Loc} {Z : State} {a0 : Array Value} {h0 : Heap} {n0 : Nat} (q1 : Int64) (p2 : Int32) (W : Int64) (C : Int64)
    (X0 : Stand p l e room_1 s m args below meth c T0 locs 0 0) (hx : p.tables.exec = Jvm.exec) (hZ : Z.Warmed39 s.vm) (hw : ∀ d ∈ tables_1, d.before a0 Z = true) (hby : c.code = code) (hml : c.maxLocals = 7) (hown : s.vm.findClass "com/example/verdicts_from_logs/verdictsfromlogs/EightBytesAsciiPinLaw" = some m.cls) (e0 : T0.heap = h0) (Z0 : n0 ≤ h0.size) (N0 : Fr n0 locs)  :
    ∃ (T' : State) (locs' : List Loc), Stand p l e room_1 s m args below meth c T' locs' 0 0 ∧ T'.heap = h0 ∧ Fr n0 locs' ∧ ∀ t, Steps p.tables e below (T'.setTop (mkF m 119 #[.val (.long q1), .second, .val (.int p2), .val (.long W), .second, .val (.long C), .second] [(.int (own_ch3 W))])) t → Steps p.tables e below (T0.setTop (mkF m 72 #[.val (.long q1), .second, .val (.int p2), .val (.long W), .second, .val (.long C), .second] [])) t := by
  obtain ⟨_, _, ⟨T1, L1, k1, n1⟩, -, X1, ⟨Lc1, hQ1, l1, y1, z1⟩, st1⟩ := Jvm.LawKit.callS X0 hx (y := (⟨"com/example/verdicts_from_logs/verdictsfromlogs/EightBytesAsciiPinLaw", "low", "(JI)Z"⟩ : MethodName)) hown (mvT hZ (hw _ (List.mem_of_getElem? (i := 2) rfl))) (mvT hZ (hw _ (List.mem_of_getElem? (i := 3) rfl))) (mvT hZ (hw _ (List.mem_of_getElem? (i := 4) rfl))) (mvT hZ (hw _ (List.mem_of_getElem? (i := 5) rfl))) (by decide) (backOf (W := 0) (rm1 l Z a0 hw [] W (3 : Int32) h0 n0 Z0) hZ (hw _ (List.mem_of_getElem? (i := 5) rfl)) (hw _ (List.mem_of_getElem? (i := 4) rfl)) (by decide) (by decide)) (g := (mkF m 74 #[.val (.long q1), .second, .val (.int p2), .val (.long W), .second, .val (.long C), .second] [(.int (3 : Int32)), (.long W)])) rfl (by rw [hml]; rfl) (argsL := [(.long W), (.int (3 : Int32))]) (rest := []) (lenOf pd_0 rfl) rfl (by show 2 * 0 + _ ≤ _; exact Nat.le_of_eq rfl) (hb hby at_74) (fun _ _ => ⟨rfl, e0, (by decide : 0 + 0 ≤ _), (by decide : 0 + 0 ≤ _)⟩)
  dsimp only [Pt.U, Pt.locs, Pt.cells, Pt.slots] at X1 l1 y1 z1 st1 hQ1
  subst l1 y1 z1
  obtain ⟨rfl, N1q, e1⟩ := hQ1
  have N1 := Fr.app N0 N1q
  by_cases q : own_low W (3 : Int32) = (0 : Int32)
  · have hv : own_ch3 W = (0 : Int32) := if_pos q
    rw [hv]
    refine ⟨_, _, X1, e1, N1, fun t k => ?_⟩
    show Steps p.tables e below (T0.setTop (mkF m 72 #[.val (.long q1), .second, .val (.int p2), .val (.long W), .second, .val (.long C), .second] [])) _
    refine XS.lloadN X0.here hx rfl (hb hby at_72) rfl ?_
    show Steps p.tables e below (T0.setTop (mkF m 73 #[.val (.long q1), .second, .val (.int p2), .val (.long W), .second, .val (.long C), .second] [(.long W)])) _
    refine XS.iconst X0.here hx rfl (hb hby at_73) ?_
    show Steps p.tables e below (T0.setTop (mkF m 74 #[.val (.long q1), .second, .val (.int p2), .val (.long W), .second, .val (.long C), .second] [(.int (3 : Int32)), (.long W)])) _
    refine st1 _ ?_
    show Steps p.tables e below (T1.setTop (mkF m 77 #[.val (.long q1), .second, .val (.int p2), .val (.long W), .second, .val (.long C), .second] [(.int (own_low W (3 : Int32)))])) _
    refine XS.ifYes X1.here hx rfl (pc0 := 77) (pc' := 118) rfl (hb hby at_77) rfl ((if0 _ _).trans (teq (q : (own_low W (3 : Int32)) = (0 : Int32))).1) (by decide) (by decide) ?_
    show Steps p.tables e below (T1.setTop (mkF m 118 #[.val (.long q1), .second, .val (.int p2), .val (.long W), .second, .val (.long C), .second] [])) _
    refine XS.iconst X1.here hx rfl (hb hby at_118) ?_
    exact k
  · have hv : own_ch3 W = own_ch4 W := if_neg q
    rw [hv]
    obtain ⟨T', L', X', e', N', st'⟩ := own_b4 q1 p2 W C X1 hx hZ hw hby hml hown e1 Z0 N1
    refine ⟨T', L', X', e', N', fun t k => ?_⟩
    show Steps p.tables e below (T0.setTop (mkF m 72 #[.val (.long q1), .second, .val (.int p2), .val (.long W), .second, .val (.long C), .second] [])) _
    refine XS.lloadN X0.here hx rfl (hb hby at_72) rfl ?_
    show Steps p.tables e below (T0.setTop (mkF m 73 #[.val (.long q1), .second, .val (.int p2), .val (.long W), .second, .val (.long C), .second] [(.long W)])) _
    refine XS.iconst X0.here hx rfl (hb hby at_73) ?_
    show Steps p.tables e below (T0.setTop (mkF m 74 #[.val (.long q1), .second, .val (.int p2), .val (.long W), .second, .val (.long C), .second] [(.int (3 : Int32)), (.long W)])) _
    refine st1 _ ?_
    show Steps p.tables e below (T1.setTop (mkF m 77 #[.val (.long q1), .second, .val (.int p2), .val (.long W), .second, .val (.long C), .second] [(.int (own_low W (3 : Int32)))])) _
    refine XS.ifNo X1.here hx rfl (hb hby at_77) rfl ((if0 _ _).trans (feq (q : ¬ ((own_low W (3 : Int32)) = (0 : Int32)))).1) ?_
    exact st' _ k

set_option maxRecDepth 65536 in
set_option maxHeartbeats 40000000 in
theorem own_b2 {p : Program} {l : Launch} {e : Env} {s : State} {m : MethodId} {args : Array Value} {below : List Frame} {meth : Method} {c : Code} {T0 : State} {locs : List Loc} {Z : State} {a0 : Array Value} {h0 : Heap} {n0 : Nat} (q1 : Int64) (p2 : Int32) (W : Int64) (C : Int64)
    (X0 : Stand p l e room_1 s m args below meth c T0 locs 0 0) (hx : p.tables.exec = Jvm.exec) (hZ : Z.Warmed39 s.vm) (hw : ∀ d ∈ tables_1, d.before a0 Z = true) (hby : c.code = code) (hml : c.maxLocals = 7) (hown : s.vm.findClass "com/example/verdicts_from_logs/verdictsfromlogs/EightBytesAsciiPinLaw" = some m.cls) (e0 : T0.heap = h0) (Z0 : n0 ≤ h0.size) (N0 : Fr n0 locs)  :
    ∃ (T' : State) (locs' : List Loc), Stand p l e room_1 s m args below meth c T' locs' 0 0 ∧ T'.heap = h0 ∧ Fr n0 locs' ∧ ∀ t, Steps p.tables e below (T'.setTop (mkF m 119 #[.val (.long q1), .second, .val (.int p2), .val (.long W), .second, .val (.long C), .second] [(.int (own_ch2 W))])) t → Steps p.tables e below (T0.setTop (mkF m 64 #[.val (.long q1), .second, .val (.int p2), .val (.long W), .second, .val (.long C), .second] [])) t := by
  obtain ⟨_, _, ⟨T1, L1, k1, n1⟩, -, X1, ⟨Lc1, hQ1, l1, y1, z1⟩, st1⟩ := Jvm.LawKit.callS X0 hx (y := (⟨"com/example/verdicts_from_logs/verdictsfromlogs/EightBytesAsciiPinLaw", "low", "(JI)Z"⟩ : MethodName)) hown (mvT hZ (hw _ (List.mem_of_getElem? (i := 2) rfl))) (mvT hZ (hw _ (List.mem_of_getElem? (i := 3) rfl))) (mvT hZ (hw _ (List.mem_of_getElem? (i := 4) rfl))) (mvT hZ (hw _ (List.mem_of_getElem? (i := 5) rfl))) (by decide) (backOf (W := 0) (rm1 l Z a0 hw [] W (2 : Int32) h0 n0 Z0) hZ (hw _ (List.mem_of_getElem? (i := 5) rfl)) (hw _ (List.mem_of_getElem? (i := 4) rfl)) (by decide) (by decide)) (g := (mkF m 66 #[.val (.long q1), .second, .val (.int p2), .val (.long W), .second, .val (.long C), .second] [(.int (2 : Int32)), (.long W)])) rfl (by rw [hml]; rfl) (argsL := [(.long W), (.int (2 : Int32))]) (rest := []) (lenOf pd_0 rfl) rfl (by show 2 * 0 + _ ≤ _; exact Nat.le_of_eq rfl) (hb hby at_66) (fun _ _ => ⟨rfl, e0, (by decide : 0 + 0 ≤ _), (by decide : 0 + 0 ≤ _)⟩)
  dsimp only [Pt.U, Pt.locs, Pt.cells, Pt.slots] at X1 l1 y1 z1 st1 hQ1
  subst l1 y1 z1
  obtain ⟨rfl, N1q, e1⟩ := hQ1
  have N1 := Fr.app N0 N1q
  by_cases q : own_low W (2 : Int32) = (0 : Int32)
  · have hv : own_ch2 W = (0 : Int32) := if_pos q
    rw [hv]
    refine ⟨_, _, X1, e1, N1, fun t k => ?_⟩
    show Steps p.tables e below (T0.setTop (mkF m 64 #[.val (.long q1), .second, .val (.int p2), .val (.long W), .second, .val (.long C), .second] [])) _
    refine XS.lloadN X0.here hx rfl (hb hby at_64) rfl ?_
    show Steps p.tables e below (T0.setTop (mkF m 65 #[.val (.long q1), .second, .val (.int p2), .val (.long W), .second, .val (.long C), .second] [(.long W)])) _
    refine XS.iconst X0.here hx rfl (hb hby at_65) ?_
    show Steps p.tables e below (T0.setTop (mkF m 66 #[.val (.long q1), .second, .val (.int p2), .val (.long W), .second, .val (.long C), .second] [(.int (2 : Int32)), (.long W)])) _
    refine st1 _ ?_
    show Steps p.tables e below (T1.setTop (mkF m 69 #[.val (.long q1), .second, .val (.int p2), .val (.long W), .second, .val (.long C), .second] [(.int (own_low W (2 : Int32)))])) _
    refine XS.ifYes X1.here hx rfl (pc0 := 69) (pc' := 118) rfl (hb hby at_69) rfl ((if0 _ _).trans (teq (q : (own_low W (2 : Int32)) = (0 : Int32))).1) (by decide) (by decide) ?_
    show Steps p.tables e below (T1.setTop (mkF m 118 #[.val (.long q1), .second, .val (.int p2), .val (.long W), .second, .val (.long C), .second] [])) _
    refine XS.iconst X1.here hx rfl (hb hby at_118) ?_
    exact k
  · have hv : own_ch2 W = own_ch3 W := if_neg q
    rw [hv]
    obtain ⟨T', L', X', e', N', st'⟩ := own_b3 q1 p2 W C X1 hx hZ hw hby hml hown e1 Z0 N1
    refine ⟨T', L', X', e', N', fun t k => ?_⟩
    show Steps p.tables e below (T0.setTop (mkF m 64 #[.val (.long q1), .second, .val (.int p2), .val (.long W), .second, .val (.long C), .second] [])) _
    refine XS.lloadN X0.here hx rfl (hb hby at_64) rfl ?_
    show Steps p.tables e below (T0.setTop (mkF m 65 #[.val (.long q1), .second, .val (.int p2), .val (.long W), .second, .val (.long C), .second] [(.long W)])) _
    refine XS.iconst X0.here hx rfl (hb hby at_65) ?_
    show Steps p.tables e below (T0.setTop (mkF m 66 #[.val (.long q1), .second, .val (.int p2), .val (.long W), .second, .val (.long C), .second] [(.int (2 : Int32)), (.long W)])) _
    refine st1 _ ?_
    show Steps p.tables e below (T1.setTop (mkF m 69 #[.val (.long q1), .second, .val (.int p2), .val (.long W), .second, .val (.long C), .second] [(.int (own_low W (2 : Int32)))])) _
    refine XS.ifNo X1.here hx rfl (hb hby at_69) rfl ((if0 _ _).trans (feq (q : ¬ ((own_low W (2 : Int32)) = (0 : Int32)))).1) ?_
    exact st' _ k

set_option maxRecDepth 65536 in
set_option maxHeartbeats 40000000 in
theorem own_b1 {p : Program} {l : Launch} {e : Env} {s : State} {m : MethodId} {args : Array Value} {below : List Frame} {meth : Method} {c : Code} {T0 : State} {locs : List Loc} {Z : State} {a0 : Array Value} {h0 : Heap} {n0 : Nat} (q1 : Int64) (p2 : Int32) (W : Int64) (C : Int64)
    (X0 : Stand p l e room_1 s m args below meth c T0 locs 0 0) (hx : p.tables.exec = Jvm.exec) (hZ : Z.Warmed39 s.vm) (hw : ∀ d ∈ tables_1, d.before a0 Z = true) (hby : c.code = code) (hml : c.maxLocals = 7) (hown : s.vm.findClass "com/example/verdicts_from_logs/verdictsfromlogs/EightBytesAsciiPinLaw" = some m.cls) (e0 : T0.heap = h0) (Z0 : n0 ≤ h0.size) (N0 : Fr n0 locs)  :
    ∃ (T' : State) (locs' : List Loc), Stand p l e room_1 s m args below meth c T' locs' 0 0 ∧ T'.heap = h0 ∧ Fr n0 locs' ∧ ∀ t, Steps p.tables e below (T'.setTop (mkF m 119 #[.val (.long q1), .second, .val (.int p2), .val (.long W), .second, .val (.long C), .second] [(.int (own_ch1 W))])) t → Steps p.tables e below (T0.setTop (mkF m 56 #[.val (.long q1), .second, .val (.int p2), .val (.long W), .second, .val (.long C), .second] [])) t := by
  obtain ⟨_, _, ⟨T1, L1, k1, n1⟩, -, X1, ⟨Lc1, hQ1, l1, y1, z1⟩, st1⟩ := Jvm.LawKit.callS X0 hx (y := (⟨"com/example/verdicts_from_logs/verdictsfromlogs/EightBytesAsciiPinLaw", "low", "(JI)Z"⟩ : MethodName)) hown (mvT hZ (hw _ (List.mem_of_getElem? (i := 2) rfl))) (mvT hZ (hw _ (List.mem_of_getElem? (i := 3) rfl))) (mvT hZ (hw _ (List.mem_of_getElem? (i := 4) rfl))) (mvT hZ (hw _ (List.mem_of_getElem? (i := 5) rfl))) (by decide) (backOf (W := 0) (rm1 l Z a0 hw [] W (1 : Int32) h0 n0 Z0) hZ (hw _ (List.mem_of_getElem? (i := 5) rfl)) (hw _ (List.mem_of_getElem? (i := 4) rfl)) (by decide) (by decide)) (g := (mkF m 58 #[.val (.long q1), .second, .val (.int p2), .val (.long W), .second, .val (.long C), .second] [(.int (1 : Int32)), (.long W)])) rfl (by rw [hml]; rfl) (argsL := [(.long W), (.int (1 : Int32))]) (rest := []) (lenOf pd_0 rfl) rfl (by show 2 * 0 + _ ≤ _; exact Nat.le_of_eq rfl) (hb hby at_58) (fun _ _ => ⟨rfl, e0, (by decide : 0 + 0 ≤ _), (by decide : 0 + 0 ≤ _)⟩)
  dsimp only [Pt.U, Pt.locs, Pt.cells, Pt.slots] at X1 l1 y1 z1 st1 hQ1
  subst l1 y1 z1
  obtain ⟨rfl, N1q, e1⟩ := hQ1
  have N1 := Fr.app N0 N1q
  by_cases q : own_low W (1 : Int32) = (0 : Int32)
  · have hv : own_ch1 W = (0 : Int32) := if_pos q
    rw [hv]
    refine ⟨_, _, X1, e1, N1, fun t k => ?_⟩
    show Steps p.tables e below (T0.setTop (mkF m 56 #[.val (.long q1), .second, .val (.int p2), .val (.long W), .second, .val (.long C), .second] [])) _
    refine XS.lloadN X0.here hx rfl (hb hby at_56) rfl ?_
    show Steps p.tables e below (T0.setTop (mkF m 57 #[.val (.long q1), .second, .val (.int p2), .val (.long W), .second, .val (.long C), .second] [(.long W)])) _
    refine XS.iconst X0.here hx rfl (hb hby at_57) ?_
    show Steps p.tables e below (T0.setTop (mkF m 58 #[.val (.long q1), .second, .val (.int p2), .val (.long W), .second, .val (.long C), .second] [(.int (1 : Int32)), (.long W)])) _
    refine st1 _ ?_
    show Steps p.tables e below (T1.setTop (mkF m 61 #[.val (.long q1), .second, .val (.int p2), .val (.long W), .second, .val (.long C), .second] [(.int (own_low W (1 : Int32)))])) _
    refine XS.ifYes X1.here hx rfl (pc0 := 61) (pc' := 118) rfl (hb hby at_61) rfl ((if0 _ _).trans (teq (q : (own_low W (1 : Int32)) = (0 : Int32))).1) (by decide) (by decide) ?_
    show Steps p.tables e below (T1.setTop (mkF m 118 #[.val (.long q1), .second, .val (.int p2), .val (.long W), .second, .val (.long C), .second] [])) _
    refine XS.iconst X1.here hx rfl (hb hby at_118) ?_
    exact k
  · have hv : own_ch1 W = own_ch2 W := if_neg q
    rw [hv]
    obtain ⟨T', L', X', e', N', st'⟩ := own_b2 q1 p2 W C X1 hx hZ hw hby hml hown e1 Z0 N1
    refine ⟨T', L', X', e', N', fun t k => ?_⟩
    show Steps p.tables e below (T0.setTop (mkF m 56 #[.val (.long q1), .second, .val (.int p2), .val (.long W), .second, .val (.long C), .second] [])) _
    refine XS.lloadN X0.here hx rfl (hb hby at_56) rfl ?_
    show Steps p.tables e below (T0.setTop (mkF m 57 #[.val (.long q1), .second, .val (.int p2), .val (.long W), .second, .val (.long C), .second] [(.long W)])) _
    refine XS.iconst X0.here hx rfl (hb hby at_57) ?_
    show Steps p.tables e below (T0.setTop (mkF m 58 #[.val (.long q1), .second, .val (.int p2), .val (.long W), .second, .val (.long C), .second] [(.int (1 : Int32)), (.long W)])) _
    refine st1 _ ?_
    show Steps p.tables e below (T1.setTop (mkF m 61 #[.val (.long q1), .second, .val (.int p2), .val (.long W), .second, .val (.long C), .second] [(.int (own_low W (1 : Int32)))])) _
    refine XS.ifNo X1.here hx rfl (hb hby at_61) rfl ((if0 _ _).trans (feq (q : ¬ ((own_low W (1 : Int32)) = (0 : Int32)))).1) ?_
    exact st' _ k

set_option maxRecDepth 65536 in
set_option maxHeartbeats 40000000 in
theorem own_b0 {p : Program} {l : Launch} {e : Env} {s : State} {m : MethodId} {args : Array Value} {below : List Frame} {meth : Method} {c : Code} {T0 : State} {locs : List Loc} {Z : State} {a0 : Array Value} {h0 : Heap} {n0 : Nat} (q1 : Int64) (p2 : Int32) (W : Int64) (C : Int64)
    (X0 : Stand p l e room_1 s m args below meth c T0 locs 0 0) (hx : p.tables.exec = Jvm.exec) (hZ : Z.Warmed39 s.vm) (hw : ∀ d ∈ tables_1, d.before a0 Z = true) (hby : c.code = code) (hml : c.maxLocals = 7) (hown : s.vm.findClass "com/example/verdicts_from_logs/verdictsfromlogs/EightBytesAsciiPinLaw" = some m.cls) (e0 : T0.heap = h0) (Z0 : n0 ≤ h0.size) (N0 : Fr n0 locs)  :
    ∃ (T' : State) (locs' : List Loc), Stand p l e room_1 s m args below meth c T' locs' 0 0 ∧ T'.heap = h0 ∧ Fr n0 locs' ∧ ∀ t, Steps p.tables e below (T'.setTop (mkF m 119 #[.val (.long q1), .second, .val (.int p2), .val (.long W), .second, .val (.long C), .second] [(.int (own_ch0 W))])) t → Steps p.tables e below (T0.setTop (mkF m 48 #[.val (.long q1), .second, .val (.int p2), .val (.long W), .second, .val (.long C), .second] [])) t := by
  obtain ⟨_, _, ⟨T1, L1, k1, n1⟩, -, X1, ⟨Lc1, hQ1, l1, y1, z1⟩, st1⟩ := Jvm.LawKit.callS X0 hx (y := (⟨"com/example/verdicts_from_logs/verdictsfromlogs/EightBytesAsciiPinLaw", "low", "(JI)Z"⟩ : MethodName)) hown (mvT hZ (hw _ (List.mem_of_getElem? (i := 2) rfl))) (mvT hZ (hw _ (List.mem_of_getElem? (i := 3) rfl))) (mvT hZ (hw _ (List.mem_of_getElem? (i := 4) rfl))) (mvT hZ (hw _ (List.mem_of_getElem? (i := 5) rfl))) (by decide) (backOf (W := 0) (rm1 l Z a0 hw [] W (0 : Int32) h0 n0 Z0) hZ (hw _ (List.mem_of_getElem? (i := 5) rfl)) (hw _ (List.mem_of_getElem? (i := 4) rfl)) (by decide) (by decide)) (g := (mkF m 50 #[.val (.long q1), .second, .val (.int p2), .val (.long W), .second, .val (.long C), .second] [(.int (0 : Int32)), (.long W)])) rfl (by rw [hml]; rfl) (argsL := [(.long W), (.int (0 : Int32))]) (rest := []) (lenOf pd_0 rfl) rfl (by show 2 * 0 + _ ≤ _; exact Nat.le_of_eq rfl) (hb hby at_50) (fun _ _ => ⟨rfl, e0, (by decide : 0 + 0 ≤ _), (by decide : 0 + 0 ≤ _)⟩)
  dsimp only [Pt.U, Pt.locs, Pt.cells, Pt.slots] at X1 l1 y1 z1 st1 hQ1
  subst l1 y1 z1
  obtain ⟨rfl, N1q, e1⟩ := hQ1
  have N1 := Fr.app N0 N1q
  by_cases q : own_low W (0 : Int32) = (0 : Int32)
  · have hv : own_ch0 W = (0 : Int32) := if_pos q
    rw [hv]
    refine ⟨_, _, X1, e1, N1, fun t k => ?_⟩
    show Steps p.tables e below (T0.setTop (mkF m 48 #[.val (.long q1), .second, .val (.int p2), .val (.long W), .second, .val (.long C), .second] [])) _
    refine XS.lloadN X0.here hx rfl (hb hby at_48) rfl ?_
    show Steps p.tables e below (T0.setTop (mkF m 49 #[.val (.long q1), .second, .val (.int p2), .val (.long W), .second, .val (.long C), .second] [(.long W)])) _
    refine XS.iconst X0.here hx rfl (hb hby at_49) ?_
    show Steps p.tables e below (T0.setTop (mkF m 50 #[.val (.long q1), .second, .val (.int p2), .val (.long W), .second, .val (.long C), .second] [(.int (0 : Int32)), (.long W)])) _
    refine st1 _ ?_
    show Steps p.tables e below (T1.setTop (mkF m 53 #[.val (.long q1), .second, .val (.int p2), .val (.long W), .second, .val (.long C), .second] [(.int (own_low W (0 : Int32)))])) _
    refine XS.ifYes X1.here hx rfl (pc0 := 53) (pc' := 118) rfl (hb hby at_53) rfl ((if0 _ _).trans (teq (q : (own_low W (0 : Int32)) = (0 : Int32))).1) (by decide) (by decide) ?_
    show Steps p.tables e below (T1.setTop (mkF m 118 #[.val (.long q1), .second, .val (.int p2), .val (.long W), .second, .val (.long C), .second] [])) _
    refine XS.iconst X1.here hx rfl (hb hby at_118) ?_
    exact k
  · have hv : own_ch0 W = own_ch1 W := if_neg q
    rw [hv]
    obtain ⟨T', L', X', e', N', st'⟩ := own_b1 q1 p2 W C X1 hx hZ hw hby hml hown e1 Z0 N1
    refine ⟨T', L', X', e', N', fun t k => ?_⟩
    show Steps p.tables e below (T0.setTop (mkF m 48 #[.val (.long q1), .second, .val (.int p2), .val (.long W), .second, .val (.long C), .second] [])) _
    refine XS.lloadN X0.here hx rfl (hb hby at_48) rfl ?_
    show Steps p.tables e below (T0.setTop (mkF m 49 #[.val (.long q1), .second, .val (.int p2), .val (.long W), .second, .val (.long C), .second] [(.long W)])) _
    refine XS.iconst X0.here hx rfl (hb hby at_49) ?_
    show Steps p.tables e below (T0.setTop (mkF m 50 #[.val (.long q1), .second, .val (.int p2), .val (.long W), .second, .val (.long C), .second] [(.int (0 : Int32)), (.long W)])) _
    refine st1 _ ?_
    show Steps p.tables e below (T1.setTop (mkF m 53 #[.val (.long q1), .second, .val (.int p2), .val (.long W), .second, .val (.long C), .second] [(.int (own_low W (0 : Int32)))])) _
    refine XS.ifNo X1.here hx rfl (hb hby at_53) rfl ((if0 _ _).trans (feq (q : ¬ ((own_low W (0 : Int32)) = (0 : Int32)))).1) ?_
    exact st' _ k

theorem ef_0b (m : MethodId) (x0 : Int64) (x1 : Int32) : entryFrame m #[(.long x0), (.int x1)] maxLocals = mkF m 0 #[.val (.long x0), .second, .val (.int x1), .unset, .unset, .unset, .unset] [] := by first | (simp [entryFrame, mkF, argsToLocals, Value.category, maxLocals]; done) | rfl
def Q0b (Z : State) (q1 : Int64) (p2 : Int32)  (h0 : Heap) (n0 : Nat) (v : Option Value) (h : Heap) (L : List Loc) : Prop := v = some (.int (1 : Int32)) ∧ Fr n0 L
set_option maxRecDepth 65536 in
set_option maxHeartbeats 40000000 in
theorem rm0b (l : Launch) (Z : State) (a0 : Array Value) (hw : ∀ d ∈ tables_1, d.before a0 Z = true) (ws : List Jvm.Cond) (q1 : Int64) (p2 : Int32)  (h0 : Heap) (n0 : Nat) (Z0 : n0 ≤ h0.size)  (hc5 : ((p2 >>> ((4 : Int32) &&& 31)) &&& (1 : Int32)) = (0 : Int32)) :
    MetFree l x (head1 (Jvm.Cond.code x code maxLocals ret :: ws) room_1) (fun a U => a = #[(.long q1), (.int p2)] ∧ Z.Warmed39 U.vm ∧ U.heap = h0) (fun _ _ _ _ _ => True) (fun _ U o U' => ∃ v L, o = .returned v ∧ Q0b Z q1 p2  h0 n0 v U'.heap L ∧ FrameEnd U o U' L room_1.cells room_1.slots) := by
  refine MetFree.of_bodySF (plainFor_of_name pn_1) hisR ?_
  intro p e s m args below meth c s₁ Bd hml0 hP hK
  obtain ⟨rfl, hZ, hh⟩ := hP
  have hx := Bd.exec
  have hby := Bd.bytes
  have hml : c.maxLocals = 7 := hml0
  have hown : s.vm.findClass "com/example/verdicts_from_logs/verdictsfromlogs/EightBytesAsciiPinLaw" = some m.cls := findClass_of_methodNamed Bd.named
  have hnm := (name_of_methodNamed Bd.named Bd.method).1
  have X0 : Stand p l e room_1 s m #[(.long q1), (.int p2)] below meth c s₁ [] 0 0 := Stand.of_body Bd
  have e0 : s₁.heap = h0 := by rw [← hh, Bd.state]; rfl
  have N0 := Fr.nil n0
  have pre0 : ∀ t, Steps p.tables e below (s₁.setTop (mkF m 0 #[.val (.long q1), .second, .val (.int p2), .unset, .unset, .unset, .unset] [])) t → Steps p.tables e below (s₁.setTop (entryFrame m #[(.long q1), (.int p2)] maxLocals)) t := fun t k => castTop (ef_0b m q1 p2) k
  obtain ⟨C, hCc⟩ : ∃ z : Int64, z = (q1 &&& (9187201950435737471 : Int64)) := ⟨_, rfl⟩
  have stC : ∀ t, Steps p.tables e below (s₁.setTop (mkF m 20 #[.val (.long q1), .second, .val (.int p2), .unset, .unset, .val (.long C), .second] [])) t → Steps p.tables e below (s₁.setTop (mkF m 20 #[.val (.long q1), .second, .val (.int p2), .unset, .unset, .val (.long (q1 &&& (9187201950435737471 : Int64))), .second] [])) t := by subst hCc; exact fun _ k => k
  obtain ⟨W, hW⟩ : ∃ z : Int64, z = (if (p2 &&& (8 : Int32)) = (0 : Int32) then (C ||| ((128 : Int64) <<< (((8 : Int32) * (p2 &&& (7 : Int32))) &&& 0x3f).toInt64)) else C) := ⟨_, rfl⟩
  have st1 : ∀ t, Steps p.tables e below (s₁.setTop (mkF m 48 #[.val (.long q1), .second, .val (.int p2), .val (.long W), .second, .val (.long C), .second] [])) t → Steps p.tables e below (s₁.setTop (mkF m 20 #[.val (.long q1), .second, .val (.int p2), .unset, .unset, .val (.long C), .second] [])) t := by
    intro t k
    by_cases hcs1 : (p2 &&& (8 : Int32)) = (0 : Int32)
    · skip
      rw [if_pos hcs1] at hW
      rw [hW] at k
      show Steps p.tables e below (s₁.setTop (mkF m 20 #[.val (.long q1), .second, .val (.int p2), .unset, .unset, .val (.long C), .second] [])) _
      refine XS.iloadN X0.here hx rfl (hb hby at_20) rfl ?_
      show Steps p.tables e below (s₁.setTop (mkF m 21 #[.val (.long q1), .second, .val (.int p2), .unset, .unset, .val (.long C), .second] [(.int p2)])) _
      refine XS.bipush X0.here hx rfl (hb hby at_21) ?_
      show Steps p.tables e below (s₁.setTop (mkF m 23 #[.val (.long q1), .second, .val (.int p2), .unset, .unset, .val (.long C), .second] [(.int (8 : Int32)), (.int p2)])) _
      refine XS.iand X0.here hx rfl (hb hby at_23) rfl ?_
      show Steps p.tables e below (s₁.setTop (mkF m 24 #[.val (.long q1), .second, .val (.int p2), .unset, .unset, .val (.long C), .second] [(.int (p2 &&& (8 : Int32)))])) _
      refine XS.ifYes X0.here hx rfl (pc0 := 24) (pc' := 33) rfl (hb hby at_24) rfl ((if0 _ _).trans (teq hcs1).1) (by decide) (by decide) ?_
      show Steps p.tables e below (s₁.setTop (mkF m 33 #[.val (.long q1), .second, .val (.int p2), .unset, .unset, .val (.long C), .second] [])) _
      refine XS.lload X0.here hx rfl (hb hby at_33) rfl ?_
      show Steps p.tables e below (s₁.setTop (mkF m 35 #[.val (.long q1), .second, .val (.int p2), .unset, .unset, .val (.long C), .second] [(.long C)])) _
      refine X0.ldc2Long hx hown (mvT hZ (hw _ (List.mem_of_getElem? (i := 1) rfl))) (g := (mkF m 35 #[.val (.long q1), .second, .val (.int p2), .unset, .unset, .val (.long C), .second] [(.long C)])) rfl (hb hby at_35) _ ?_
      show Steps p.tables e below (s₁.setTop (mkF m 38 #[.val (.long q1), .second, .val (.int p2), .unset, .unset, .val (.long C), .second] [(.long (128 : Int64)), (.long C)])) _
      refine XS.bipush X0.here hx rfl (hb hby at_38) ?_
      show Steps p.tables e below (s₁.setTop (mkF m 40 #[.val (.long q1), .second, .val (.int p2), .unset, .unset, .val (.long C), .second] [(.int (8 : Int32)), (.long (128 : Int64)), (.long C)])) _
      refine XS.iloadN X0.here hx rfl (hb hby at_40) rfl ?_
      show Steps p.tables e below (s₁.setTop (mkF m 41 #[.val (.long q1), .second, .val (.int p2), .unset, .unset, .val (.long C), .second] [(.int p2), (.int (8 : Int32)), (.long (128 : Int64)), (.long C)])) _
      refine XS.bipush X0.here hx rfl (hb hby at_41) ?_
      show Steps p.tables e below (s₁.setTop (mkF m 43 #[.val (.long q1), .second, .val (.int p2), .unset, .unset, .val (.long C), .second] [(.int (7 : Int32)), (.int p2), (.int (8 : Int32)), (.long (128 : Int64)), (.long C)])) _
      refine XS.iand X0.here hx rfl (hb hby at_43) rfl ?_
      show Steps p.tables e below (s₁.setTop (mkF m 44 #[.val (.long q1), .second, .val (.int p2), .unset, .unset, .val (.long C), .second] [(.int (p2 &&& (7 : Int32))), (.int (8 : Int32)), (.long (128 : Int64)), (.long C)])) _
      refine XS.imul X0.here hx rfl (hb hby at_44) rfl ?_
      show Steps p.tables e below (s₁.setTop (mkF m 45 #[.val (.long q1), .second, .val (.int p2), .unset, .unset, .val (.long C), .second] [(.int ((8 : Int32) * (p2 &&& (7 : Int32)))), (.long (128 : Int64)), (.long C)])) _
      refine XS.lshl X0.here hx rfl (hb hby at_45) rfl ?_
      show Steps p.tables e below (s₁.setTop (mkF m 46 #[.val (.long q1), .second, .val (.int p2), .unset, .unset, .val (.long C), .second] [(.long ((128 : Int64) <<< (((8 : Int32) * (p2 &&& (7 : Int32))) &&& 0x3f).toInt64)), (.long C)])) _
      refine XS.lor X0.here hx rfl (hb hby at_46) rfl ?_
      show Steps p.tables e below (s₁.setTop (mkF m 47 #[.val (.long q1), .second, .val (.int p2), .unset, .unset, .val (.long C), .second] [(.long (C ||| ((128 : Int64) <<< (((8 : Int32) * (p2 &&& (7 : Int32))) &&& 0x3f).toInt64)))])) _
      refine XS.lstoreN X0.here hx rfl (hb hby at_47) rfl (l' := #[.val (.long q1), .second, .val (.int p2), .val (.long (C ||| ((128 : Int64) <<< (((8 : Int32) * (p2 &&& (7 : Int32))) &&& 0x3f).toInt64))), .second, .val (.long C), .second]) rfl ?_
      exact k
    · skip
      rw [if_neg hcs1] at hW
      rw [hW] at k
      show Steps p.tables e below (s₁.setTop (mkF m 20 #[.val (.long q1), .second, .val (.int p2), .unset, .unset, .val (.long C), .second] [])) _
      refine XS.iloadN X0.here hx rfl (hb hby at_20) rfl ?_
      show Steps p.tables e below (s₁.setTop (mkF m 21 #[.val (.long q1), .second, .val (.int p2), .unset, .unset, .val (.long C), .second] [(.int p2)])) _
      refine XS.bipush X0.here hx rfl (hb hby at_21) ?_
      show Steps p.tables e below (s₁.setTop (mkF m 23 #[.val (.long q1), .second, .val (.int p2), .unset, .unset, .val (.long C), .second] [(.int (8 : Int32)), (.int p2)])) _
      refine XS.iand X0.here hx rfl (hb hby at_23) rfl ?_
      show Steps p.tables e below (s₁.setTop (mkF m 24 #[.val (.long q1), .second, .val (.int p2), .unset, .unset, .val (.long C), .second] [(.int (p2 &&& (8 : Int32)))])) _
      refine XS.ifNo X0.here hx rfl (hb hby at_24) rfl ((if0 _ _).trans (feq hcs1).1) ?_
      show Steps p.tables e below (s₁.setTop (mkF m 27 #[.val (.long q1), .second, .val (.int p2), .unset, .unset, .val (.long C), .second] [])) _
      refine XS.lload X0.here hx rfl (hb hby at_27) rfl ?_
      show Steps p.tables e below (s₁.setTop (mkF m 29 #[.val (.long q1), .second, .val (.int p2), .unset, .unset, .val (.long C), .second] [(.long C)])) _
      refine XS.lstoreN X0.here hx rfl (hb hby at_29) rfl (l' := #[.val (.long q1), .second, .val (.int p2), .val (.long C), .second, .val (.long C), .second]) rfl ?_
      show Steps p.tables e below (s₁.setTop (mkF m 30 #[.val (.long q1), .second, .val (.int p2), .val (.long C), .second, .val (.long C), .second] [])) _
      refine XS.goto X0.here hx rfl (pc0 := 30) (pc' := 48) rfl (hb hby at_30) (by decide) (by decide) ?_
      exact k
  obtain ⟨TC, LC, XC, eC, NC, stc⟩ := own_b0 q1 p2 W C X0 hx hZ hw hby hml hown e0 Z0 N0
  obtain ⟨_, _, ⟨T2, L2, k2, n2⟩, -, X2, ⟨Lc2, hQ2, l2, y2, z2⟩, st2⟩ := Jvm.LawKit.callS XC hx (y := (⟨"com/example/verdicts_from_logs/verdictsfromlogs/EightBytes", "ascii", "(J)Z"⟩ : MethodName)) hown (mvT hZ (hw _ (List.mem_of_getElem? (i := 7) rfl))) (mvT hZ (hw _ (List.mem_of_getElem? (i := 8) rfl))) (mvT hZ (hw _ (List.mem_of_getElem? (i := 9) rfl))) (mvT hZ (hw _ (List.mem_of_getElem? (i := 10) rfl))) (by decide) (backOf (W := 0) (rm2 l Z a0 hw [] W h0 n0 Z0) hZ (hw _ (List.mem_of_getElem? (i := 10) rfl)) (hw _ (List.mem_of_getElem? (i := 9) rfl)) (by decide) (by decide)) (g := (mkF m 122 #[.val (.long q1), .second, .val (.int p2), .val (.long W), .second, .val (.int (own_ch0 W)), .unset] [(.long W)])) rfl (by rw [hml]; rfl) (argsL := [(.long W)]) (rest := []) (lenOf pd_1 rfl) rfl (by show 2 * 0 + _ ≤ _; exact Nat.le_of_eq rfl) (hb hby at_122) (fun _ _ => ⟨rfl, eC, (by decide : 0 + 0 ≤ _), (by decide : 0 + 0 ≤ _)⟩)
  dsimp only [Pt.U, Pt.locs, Pt.cells, Pt.slots] at X2 l2 y2 z2 st2 hQ2
  subst l2 y2 z2
  obtain ⟨rfl, N2q, e2⟩ := hQ2
  have N2 := Fr.app NC N2q
  obtain ⟨fs, hr, hrun, hended, hW, hsame⟩ := X2.leave (v := some (.int (1 : Int32))) (fun h => by rw [Bd.returns] at h; cases h)
  refine ⟨_, _, pre0 _ ?_, hrun, hended, _, _, rfl, ?_, ⟨_, rfl⟩, hW, hsame.mono (by decide) (by decide)⟩
  · show Steps p.tables e below (s₁.setTop (mkF m 0 #[.val (.long q1), .second, .val (.int p2), .unset, .unset, .unset, .unset] [])) _
    refine XS.iloadN X0.here hx rfl (hb hby at_0) rfl ?_
    show Steps p.tables e below (s₁.setTop (mkF m 1 #[.val (.long q1), .second, .val (.int p2), .unset, .unset, .unset, .unset] [(.int p2)])) _
    refine XS.iconst X0.here hx rfl (hb hby at_1) ?_
    show Steps p.tables e below (s₁.setTop (mkF m 2 #[.val (.long q1), .second, .val (.int p2), .unset, .unset, .unset, .unset] [(.int (4 : Int32)), (.int p2)])) _
    refine XS.ishr X0.here hx rfl (hb hby at_2) rfl ?_
    show Steps p.tables e below (s₁.setTop (mkF m 3 #[.val (.long q1), .second, .val (.int p2), .unset, .unset, .unset, .unset] [(.int (p2 >>> ((4 : Int32) &&& 31)))])) _
    refine XS.iconst X0.here hx rfl (hb hby at_3) ?_
    show Steps p.tables e below (s₁.setTop (mkF m 4 #[.val (.long q1), .second, .val (.int p2), .unset, .unset, .unset, .unset] [(.int (1 : Int32)), (.int (p2 >>> ((4 : Int32) &&& 31)))])) _
    refine XS.iand X0.here hx rfl (hb hby at_4) rfl ?_
    show Steps p.tables e below (s₁.setTop (mkF m 5 #[.val (.long q1), .second, .val (.int p2), .unset, .unset, .unset, .unset] [(.int ((p2 >>> ((4 : Int32) &&& 31)) &&& (1 : Int32)))])) _
    refine XS.ifYes X0.here hx rfl (pc0 := 5) (pc' := 13) rfl (hb hby at_5) rfl ((if0 _ _).trans (teq (hc5 : ((p2 >>> ((4 : Int32) &&& 31)) &&& (1 : Int32)) = (0 : Int32))).1) (by decide) (by decide) ?_
    show Steps p.tables e below (s₁.setTop (mkF m 13 #[.val (.long q1), .second, .val (.int p2), .unset, .unset, .unset, .unset] [])) _
    refine XS.lloadN X0.here hx rfl (hb hby at_13) rfl ?_
    show Steps p.tables e below (s₁.setTop (mkF m 14 #[.val (.long q1), .second, .val (.int p2), .unset, .unset, .unset, .unset] [(.long q1)])) _
    refine X0.ldc2Long hx hown (mvT hZ (hw _ (List.mem_of_getElem? (i := 0) rfl))) (g := (mkF m 14 #[.val (.long q1), .second, .val (.int p2), .unset, .unset, .unset, .unset] [(.long q1)])) rfl (hb hby at_14) _ ?_
    show Steps p.tables e below (s₁.setTop (mkF m 17 #[.val (.long q1), .second, .val (.int p2), .unset, .unset, .unset, .unset] [(.long (9187201950435737471 : Int64)), (.long q1)])) _
    refine XS.land X0.here hx rfl (hb hby at_17) rfl ?_
    show Steps p.tables e below (s₁.setTop (mkF m 18 #[.val (.long q1), .second, .val (.int p2), .unset, .unset, .unset, .unset] [(.long (q1 &&& (9187201950435737471 : Int64)))])) _
    refine XS.lstore X0.here hx rfl (hb hby at_18) rfl (l' := #[.val (.long q1), .second, .val (.int p2), .unset, .unset, .val (.long (q1 &&& (9187201950435737471 : Int64))), .second]) rfl ?_
    show Steps p.tables e below (s₁.setTop (mkF m 20 #[.val (.long q1), .second, .val (.int p2), .unset, .unset, .val (.long (q1 &&& (9187201950435737471 : Int64))), .second] [])) _
    refine stC _ ?_
    show Steps p.tables e below (s₁.setTop (mkF m 20 #[.val (.long q1), .second, .val (.int p2), .unset, .unset, .val (.long C), .second] [])) _
    refine st1 _ ?_
    show Steps p.tables e below (s₁.setTop (mkF m 48 #[.val (.long q1), .second, .val (.int p2), .val (.long W), .second, .val (.long C), .second] [])) _
    refine stc _ ?_
    show Steps p.tables e below (TC.setTop (mkF m 119 #[.val (.long q1), .second, .val (.int p2), .val (.long W), .second, .val (.long C), .second] [(.int (own_ch0 W))])) _
    refine XS.istore XC.here hx rfl (hb hby at_119) rfl (l' := #[.val (.long q1), .second, .val (.int p2), .val (.long W), .second, .val (.int (own_ch0 W)), .unset]) rfl ?_
    show Steps p.tables e below (TC.setTop (mkF m 121 #[.val (.long q1), .second, .val (.int p2), .val (.long W), .second, .val (.int (own_ch0 W)), .unset] [])) _
    refine XS.lloadN XC.here hx rfl (hb hby at_121) rfl ?_
    show Steps p.tables e below (TC.setTop (mkF m 122 #[.val (.long q1), .second, .val (.int p2), .val (.long W), .second, .val (.int (own_ch0 W)), .unset] [(.long W)])) _
    refine st2 _ ?_
    show Steps p.tables e below (T2.setTop (mkF m 125 #[.val (.long q1), .second, .val (.int p2), .val (.long W), .second, .val (.int (own_ch0 W)), .unset] [(.int (own_asc W))])) _
    refine XS.iload X2.here hx rfl (hb hby at_125) rfl ?_
    show Steps p.tables e below (T2.setTop (mkF m 127 #[.val (.long q1), .second, .val (.int p2), .val (.long W), .second, .val (.int (own_ch0 W)), .unset] [(.int (own_ch0 W)), (.int (own_asc W))])) _
    refine XS.icmpNo X2.here hx rfl (hb hby at_127) rfl (teq (own_main W : (own_asc W) = (own_ch0 W))).2 ?_
    show Steps p.tables e below (T2.setTop (mkF m 130 #[.val (.long q1), .second, .val (.int p2), .val (.long W), .second, .val (.int (own_ch0 W)), .unset] [])) _
    refine XS.iconst X2.here hx rfl (hb hby at_130) ?_
    show Steps p.tables e below (T2.setTop (mkF m 131 #[.val (.long q1), .second, .val (.int p2), .val (.long W), .second, .val (.int (own_ch0 W)), .unset] [(.int (1 : Int32))])) _
    refine XS.goto X2.here hx rfl (pc0 := 131) (pc' := 135) rfl (hb hby at_131) (by decide) (by decide) ?_
    show Steps p.tables e below (T2.setTop (mkF m 135 #[.val (.long q1), .second, .val (.int p2), .val (.long W), .second, .val (.int (own_ch0 W)), .unset] [(.int (1 : Int32))])) _
    exact retN X2 hx (t := .boolean) Bd.returns (by simp) (hb hby at_135) hr
  · show Q0b Z q1 p2  h0 n0 _ T2.heap _
    rw [e2]
    exact ⟨rfl, N2⟩

set_option maxRecDepth 65536 in
set_option maxHeartbeats 40000000 in
theorem rm0 (l : Launch) (Z : State) (a0 : Array Value) (hw : ∀ d ∈ tables_1, d.before a0 Z = true) (ws : List Jvm.Cond) (q1 : Int64) (p2 : Int32) (h0 : Heap) (n0 : Nat) (Z0 : n0 ≤ h0.size) :
    MetFree l x (head1 (Jvm.Cond.code x code maxLocals ret :: ws) room_1) (fun a U => a = #[(.long q1), (.int p2)] ∧ Z.Warmed39 U.vm ∧ U.heap = h0) (fun _ _ _ _ _ => True) (fun _ U o U' => ∃ v L, o = .returned v ∧ Q0a Z q1 p2 h0 n0 v U'.heap L ∧ FrameEnd U o U' L room_1.cells room_1.slots) := by
  by_cases q : ((p2 >>> ((4 : Int32) &&& 31)) &&& (1 : Int32)) = (0 : Int32)
  · exact rm0b l Z a0 hw ws q1 p2 h0 n0 Z0 q
  · exact rm0a l Z a0 hw ws q1 p2 h0 n0 Z0 q

set_option maxRecDepth 65536 in
set_option maxHeartbeats 40000000 in
theorem comes_1 {Post : Tables → Env → Array Value → State → Outcome → State → Prop} (hpost : ∀ tb e args s v u, (limb_1_1.after args s (.returned v) u = true ∧ limb_1_2.after args s (.returned v) u = true ∧ True) → FrameEnd s (.returned v) u (Jvm.fieldLocs frame_1_writes args s ++ Jvm.arrayLocs frame_1_arrays args s ++ Jvm.staticLocs frame_1_statics s) 0 0 → Post tb e args s (.returned v) u) :
    ArmFor flags0 classFile x code maxLocals ret World_1 tables_1 room_1 Calls_1 rest_1 Pre_1 Post := by
  intro l hfl _ _ p e ha hc hk s m args below hf hA hF happ hP
  obtain ⟨hcalls, hrest, hpre⟩ := hP
  obtain ⟨-, -, -, hnamed, -, -, -, hat⟩ := (Spec.applies_iff hf).mp happ
  obtain ⟨hg, hn⟩ := and_e (Cond.before_iff.mp (show (Jvm.Cond.and given_1 narrow_1).before args s = true from hpre))
  obtain ⟨g0, k0⟩ := and_e hg
  obtain ⟨g1, k1⟩ := and_e k0
  obtain ⟨w0, w1, rfl⟩ : ∃ w0 w1 : Value, args = #[w0, w1] := by
    have hs : args.size = 2 := by simpa [Cond.value, given_1] using g0
    obtain ⟨L⟩ := args
    match L, hs with
    | [w0, w1], _ => exact ⟨w0, w1, rfl⟩
  have hw := fun d (hd : d ∈ tables_1) => atoms_spec (ws := Jvm.Cond.code x code maxLocals ret :: tables_1) hat d (List.mem_cons_of_mem _ hd)
  obtain ⟨i0, ei0⟩ := isL_v g1
  obtain rfl : w0 = (.long i0) := Option.some.inj ei0
  obtain ⟨i1, ei1⟩ := is_v k1
  obtain rfl : w1 = (.int i1) := Option.some.inj ei1
  obtain ⟨n, o, h1, h2, h3, _, L, rfl, ⟨rfl, N⟩, hq⟩ := rm0 l s _ hw tables_1 i0 i1 s.heap s.heap.size (Nat.le_refl _) p e ha hc hk s m _ below hf ((Spec.applies_iff_loose hf).mp happ).1 ⟨rfl, State.Warmed39.refl s, rfl⟩ trivial
  refine ⟨n, _, h1, h2, h3, hpost _ _ _ _ _ _ ⟨Cond.after_iff.mpr rfl, Cond.after_iff.mpr (eq_i res_at (Term.int_eval (1)) rfl), trivial⟩ ⟨hq.1, hq.2.1, (hq.2.2.sift fun y hy => Or.inr (N y hy)).mono (by decide) (by decide)⟩⟩
theorem main_1_1 : Claimed_1_1 := comes_1 fun _ _ _ _ _ _ h hF => ⟨h.1, hF⟩
theorem main_1_2 : Claimed_1_2 := comes_1 fun _ _ _ _ _ _ h hF => ⟨h.2.1, hF⟩

end Jvm.Pilot.@@N@@
namespace Jvm.Pilot.@@N@@
open Jvm Jvm.ClassFile Sem Op Lib Jvm.Free Jvm.Stand Jvm.Pilot.@@N@@.Jvm.D
/-! MADE BY PROGRAM (witnessworld.py) out of the Statement's table words and the real class files: 9 classes; the members and pool entries that the words name. The judged class is class 1, her method 2. -/
namespace start1
open Jvm.ClassFile
def u (s : String) : CpInfo := .utf8 (stringToUtf16 s)
/-- a pool by its gaps: so many unusable entries, then the entry; so many at the end -/
def gap : Nat → List CpInfo → List CpInfo
  | 0, r => r
  | n + 1, r => .unusable :: gap n r
def poolList (es : List (Nat × CpInfo)) (last : Nat) : List CpInfo := es.foldr (fun e r => gap e.1 (e.2 :: r)) (gap last [])
def pool (es : List (Nat × CpInfo)) (last : Nat) : Array CpInfo := ⟨poolList es last⟩
def fileOf (pool : Array CpInfo) (this : Nat) (attrs : Array Attribute := #[]) (ms : Array MethodInfo := #[]) (fl : Nat := 33) (sup : Nat := 0) (ifs : Array Nat := #[]) (fds : Array FieldInfo := #[]) : ClassFile where
  minorVersion := 0
  majorVersion := 65
  constantPool := pool
  accessFlags := fl
  thisClass := this
  superClass := sup
  interfaces := ifs
  fields := fds
  methods := ms
  attributes := attrs
def plain (name : String) (sup : Option ClassId) : Class where
  name := name
  kind := .ordinary
  loader := none
  accessFlags := 33
  super := sup
  interfaces := #[]
  cf := none
  fields := #[]
  methods := #[]
  instanceTypes := #[]
  staticTypes := #[]
  resolved := #[]
  callSites := []
  init := .initialized
  statics := none
  mirror := none

def pool0 : Array CpInfo := pool [(5, u "<init>"), (0, u "()V"), (1, .class_ 10), (1, u "java/lang/Object")] 113

def k0m0 : Method := { name := "<init>", desc := "()V", sig := { parameters := [], returnType := none }, accessFlags := 1, code := none }
/-- java/lang/Object -/
def k0 : Class := { plain "java/lang/Object" none with
  accessFlags := 33
  interfaces := #[]
  cf := some (fileOf pool0 8 #[] #[{ accessFlags := 1, nameIndex := 5, descriptorIndex := 6, attributes := #[] }] 33 0 #[] #[])
  fields := #[]
  methods := #[k0m0]
  instanceTypes := #[]
  staticTypes := #[]
  resolved := Array.replicate 124 none
  statics := none }

def pool1 : Array CpInfo := pool [(2, .class_ 4), (1, u "java/lang/Object"), (0, u "<init>"), (0, u "()V"), (0, .long 255), (1, .long 128), (1, .long 9187201950435737471), (1, .methodref 14 15), (0, .class_ 16), (0, .nameAndType 17 18), (0, u "com/example/verdicts_from_logs/verdictsfromlogs/EightBytesAsciiPinLaw"), (0, u "low"), (0, u "(JI)Z"), (0, .methodref 20 21), (0, .class_ 22), (0, .nameAndType 23 24), (0, u "com/example/verdicts_from_logs/verdictsfromlogs/EightBytes"), (0, u "ascii"), (0, u "(J)Z"), (3, u "law")] 2

def k1m0 : Method := { name := "<init>", desc := "()V", sig := { parameters := [], returnType := none }, accessFlags := 2, code := none }
def k1c1 : Code := { maxStack := 4, maxLocals := 3, code := method_2_code, exceptionTable := #[], attributes := #[] }
def k1m1 : Method := { name := "low", desc := "(JI)Z", sig := { parameters := [.long, .int], returnType := some .boolean }, accessFlags := 10, code := some k1c1 }
def k1c2 : Code := { maxStack := 7, maxLocals := 7, code := code, exceptionTable := #[], attributes := #[] }
def k1m2 : Method := { name := "law", desc := "(JI)Z", sig := { parameters := [.long, .int], returnType := some .boolean }, accessFlags := 9, code := some k1c2 }
/-- com/example/verdicts_from_logs/verdictsfromlogs/EightBytesAsciiPinLaw -/
def k1 : Class := { plain "com/example/verdicts_from_logs/verdictsfromlogs/EightBytesAsciiPinLaw" (some 0) with
  accessFlags := 49
  interfaces := #[]
  cf := some (fileOf pool1 14 #[] #[{ accessFlags := 2, nameIndex := 5, descriptorIndex := 6, attributes := #[] }, { accessFlags := 10, nameIndex := 17, descriptorIndex := 18, attributes := #[] }, { accessFlags := 9, nameIndex := 28, descriptorIndex := 18, attributes := #[] }] 49 2 #[] #[])
  fields := #[]
  methods := #[k1m0, k1m1, k1m2]
  instanceTypes := #[]
  staticTypes := #[]
  resolved := Array.replicate 31 none
  statics := none }

def pool2 : Array CpInfo := pool [(4, .class_ 6), (1, u "java/lang/Object"), (0, u "<init>"), (0, u "()V"), (1, .class_ 12), (1, u "com/example/verdicts_from_logs/verdictsfromlogs/EightBytes"), (0, u "WORDS"), (0, u "Ljava/lang/invoke/VarHandle;"), (10, .long 9259542123273814144), (23, u "LENGTH"), (0, u "I"), (2, u "ONES"), (0, u "J"), (0, u "HIGH_BITS"), (5, u "ascii"), (0, u "(J)Z")] 5

def k2m0 : Method := { name := "<init>", desc := "()V", sig := { parameters := [], returnType := none }, accessFlags := 2, code := none }
def k2c1 : Code := { maxStack := 4, maxLocals := 2, code := prog_1_method_4_code, exceptionTable := #[], attributes := #[] }
def k2m1 : Method := { name := "ascii", desc := "(J)Z", sig := { parameters := [.long], returnType := some .boolean }, accessFlags := 8, code := some k2c1 }
/-- com/example/verdicts_from_logs/verdictsfromlogs/EightBytes -/
def k2 : Class := { plain "com/example/verdicts_from_logs/verdictsfromlogs/EightBytes" (some 0) with
  accessFlags := 48
  interfaces := #[]
  cf := some (fileOf pool2 10 #[] #[{ accessFlags := 2, nameIndex := 7, descriptorIndex := 8, attributes := #[] }, { accessFlags := 8, nameIndex := 61, descriptorIndex := 62, attributes := #[] }] 48 4 #[] #[{ accessFlags := 24, nameIndex := 49, descriptorIndex := 50, attributes := #[] }, { accessFlags := 26, nameIndex := 13, descriptorIndex := 14, attributes := #[] }, { accessFlags := 26, nameIndex := 53, descriptorIndex := 54, attributes := #[] }, { accessFlags := 26, nameIndex := 55, descriptorIndex := 54, attributes := #[] }])
  fields := #[{ name := "LENGTH", type := .int, accessFlags := 24, slot := 0, constantValue := 0 }, { name := "WORDS", type := (.object "java/lang/invoke/VarHandle"), accessFlags := 26, slot := 1, constantValue := 0 }, { name := "ONES", type := .long, accessFlags := 26, slot := 2, constantValue := 0 }, { name := "HIGH_BITS", type := .long, accessFlags := 26, slot := 3, constantValue := 0 }]
  methods := #[k2m0, k2m1]
  instanceTypes := #[]
  staticTypes := #[.int, (.object "java/lang/invoke/VarHandle"), .long, .long]
  resolved := Array.replicate 68 none
  statics := none }

def pool3 : Array CpInfo := pool [(1, u "java/lang/Cloneable"), (0, .class_ 1), (0, u "java/lang/Object"), (0, .class_ 3)] 3

/-- java/lang/Cloneable -/
def k3 : Class := { plain "java/lang/Cloneable" (some 0) with
  accessFlags := 1537
  interfaces := #[]
  cf := some (fileOf pool3 2 #[] #[] 1537 4 #[] #[])
  fields := #[]
  methods := #[]
  instanceTypes := #[]
  staticTypes := #[]
  resolved := Array.replicate 8 none
  statics := none }

def pool4 : Array CpInfo := pool [(1, u "java/io/Serializable"), (0, .class_ 1), (0, u "java/lang/Object"), (0, .class_ 3)] 3

/-- java/io/Serializable -/
def k4 : Class := { plain "java/io/Serializable" (some 0) with
  accessFlags := 1537
  interfaces := #[]
  cf := some (fileOf pool4 2 #[] #[] 1537 4 #[] #[])
  fields := #[]
  methods := #[]
  instanceTypes := #[]
  staticTypes := #[]
  resolved := Array.replicate 8 none
  statics := none }

/-- the primitive byte -/
def k5 : Class := { plain "byte" none with kind := .primitive 'B', accessFlags := 0x411 }
/-- [B -/
def k6 : Class := { plain "[B" (some 0) with kind := .array 5 .byte, interfaces := #[3, 4], accessFlags := 1041 }

/-- the primitive int -/
def k7 : Class := { plain "int" none with kind := .primitive 'I', accessFlags := 0x411 }
/-- [I -/
def k8 : Class := { plain "[I" (some 0) with kind := .array 7 .int, interfaces := #[3, 4], accessFlags := 1041 }

def heap : Heap := #[]
def classes : Array Class := #[k0, k1, k2, k3, k4, k5, k6, k7, k8]
def interned : List (Array UInt16 × Addr) := []
def slotsUsed : Nat := 0
def theMethod : MethodId := ⟨1, 2⟩
def args0 : Array Value := #[.long 5, .int 3]
def aboutOver (below : List Frame) : State where
  vm := { classes := classes, interned := interned.toArray }
  heap := heap
  slotsUsed := slotsUsed
  threads := #[{ frames := .invoking theMethod args0 :: below }]
def below0 : List Frame := [.native { method := ⟨0, 0⟩, args := #[] }]
def about1 : State := aboutOver below0
def p0 : Program := .bare "" "" ""
def e0 : Env := launch0.env 0 0 0
theorem w_frames : about1.frames = Frame.invoking theMethod args0 :: below0 := rfl
set_option maxRecDepth 65536 in
theorem w_args : argsFit about1.vm theMethod args0 = true := by decide +kernel
set_option maxRecDepth 65536 in
theorem w_heap : heapFits about1 = true := by decide +kernel
set_option maxRecDepth 65536 in
theorem w_runnable : about1.curStatus? = some .runnable := by decide +kernel
set_option maxRecDepth 65536 in
theorem w_alone : about1.alone = true := by decide +kernel
set_option maxRecDepth 65536 in
theorem w_named : about1.methodNamed? x = some theMethod := by decide +kernel
set_option maxRecDepth 65536 in
theorem w_hears : about1.hears theMethod below0 = true := by decide +kernel
set_option maxRecDepth 65536 in
theorem w_ripe : about1.ripe theMethod args0 below0 = true := by decide +kernel
theorem w_running : about1.status = .running := rfl
set_option maxRecDepth 65536 in
theorem w_room : about1.hasRoom e0.platform room_1 = true :=
  launch0.hasRoom_least _ room_1 (by decide +kernel) (by decide +kernel) (by decide +kernel) (by decide +kernel) (by decide +kernel) (by decide +kernel)
theorem allAtoms_all (ts : List Jvm.Cond) (a : Array Jvm.Value) (st : Jvm.State) : (allAtoms ts).before a st = ts.all (fun c => c.before a st) := by
  induction ts with
  | nil => rfl
  | cons c t ih =>
    show (Jvm.Cond.and c (allAtoms t)).before a st = _
    rw [Jvm.Cond.before_and, ih, List.all_cons]
def words1 : List Jvm.Cond := Jvm.Cond.code x code maxLocals ret :: tables_1
/-- a 'code' word, met by the world's own term for the bytes: nothing is compared byte by byte -/
theorem code_word {y : MethodName} {bytes : ByteArray} {mx : Nat} {rt : Option FieldType} {a : Array Value} {s : State} {m : MethodId} {meth : Method} {c : Code} (h1 : s.methodNamed? y = some m) (h2 : s.vm.method? m = some meth) (h3 : meth.code = some c) (h4 : c.code = bytes)
    (h5 : (c.maxLocals == mx && c.exceptionTable.isEmpty && decide (c.maxStack ≤ mostOperands) && decide (meth.sig.returnType = rt) && !meth.locks && decide (parseMethodDescriptor y.desc = some meth.sig)) = true) : (Jvm.Cond.code y bytes mx rt).before a s = true := by
  simp only [Bool.and_eq_true, beq_iff_eq, Bool.not_eq_true', decide_eq_true_eq] at h5
  obtain ⟨⟨⟨⟨⟨g1, g2⟩, g3⟩, g4⟩, g5⟩, g6⟩ := h5
  simp [Cond.before, Cond.holds, Cond.value, h1, h2, h3, h4, g1, g2, g3, g4, g5, g6]
def isCode : Jvm.Cond → Bool
  | .code _ _ _ _ => true
  | _ => false
theorem all_split {L : List Jvm.Cond} {P : Jvm.Cond → Bool} (h1 : L.all (fun c => isCode c || P c) = true) (h2 : ∀ c ∈ L.filter isCode, P c = true) : L.all P = true := by
  refine List.all_eq_true.mpr fun c hc => ?_
  have h := List.all_eq_true.mp h1 c hc
  rcases Bool.eq_false_or_eq_true (isCode c) with hi | hi
  · exact h2 c (List.mem_filter.mpr ⟨hc, hi⟩)
  · simpa [hi] using h
set_option maxRecDepth 65536 in
theorem w_c0 : (Jvm.Cond.code x code maxLocals ret).before args0 about1 = true := code_word (m := ⟨1, 2⟩) (meth := k1m2) (c := k1c2) (by decide +kernel) rfl rfl rfl (by decide +kernel)
set_option maxRecDepth 65536 in
theorem w_c1 : (Jvm.Cond.code ({ cls := "com/example/verdicts_from_logs/verdictsfromlogs/EightBytesAsciiPinLaw", name := "low", desc := "(JI)Z" } : Jvm.MethodName) method_2_code (3 : Nat) (Option.some Jvm.ClassFile.FieldType.boolean)).before args0 about1 = true := code_word (m := ⟨1, 1⟩) (meth := k1m1) (c := k1c1) (by decide +kernel) rfl rfl rfl (by decide +kernel)
set_option maxRecDepth 65536 in
theorem w_c2 : (Jvm.Cond.code ({ cls := "com/example/verdicts_from_logs/verdictsfromlogs/EightBytes", name := "ascii", desc := "(J)Z" } : Jvm.MethodName) prog_1_method_4_code (2 : Nat) (Option.some Jvm.ClassFile.FieldType.boolean)).before args0 about1 = true := code_word (m := ⟨2, 1⟩) (meth := k2m1) (c := k2c1) (by decide +kernel) rfl rfl rfl (by decide +kernel)
def codes1 : List Jvm.Cond := [Jvm.Cond.code x code maxLocals ret, Jvm.Cond.code ({ cls := "com/example/verdicts_from_logs/verdictsfromlogs/EightBytesAsciiPinLaw", name := "low", desc := "(JI)Z" } : Jvm.MethodName) method_2_code (3 : Nat) (Option.some Jvm.ClassFile.FieldType.boolean), Jvm.Cond.code ({ cls := "com/example/verdicts_from_logs/verdictsfromlogs/EightBytes", name := "ascii", desc := "(J)Z" } : Jvm.MethodName) prog_1_method_4_code (2 : Nat) (Option.some Jvm.ClassFile.FieldType.boolean)]
set_option maxRecDepth 65536 in
theorem codes_eq : words1.filter isCode = codes1 := rfl
theorem w_codes : ∀ c ∈ words1.filter isCode, c.before args0 about1 = true := by
  rw [codes_eq]
  intro c hc
  simp only [codes1, List.mem_cons, List.not_mem_nil, or_false] at hc
  rcases hc with rfl | rfl | rfl
  · exact w_c0
  · exact w_c1
  · exact w_c2
set_option maxRecDepth 65536 in
theorem w_t1 : words1.all (fun c => isCode c || c.before args0 about1) = true := by decide +kernel
theorem w_tables : (allAtoms (Jvm.Cond.code x code maxLocals ret :: tables_1)).before args0 about1 = true := by
  rw [allAtoms_all]
  show words1.all (fun c => c.before args0 about1) = true
  refine all_split ?_ w_codes
  rw [w_t1]
set_option maxRecDepth 65536 in
theorem w_case : (Jvm.Cond.and given_1 narrow_1).before args0 about1 = true := by decide +kernel
theorem w_applies : (headSpec (Jvm.Cond.code x code maxLocals ret :: tables_1) room_1).applies x e0.platform about1 = true :=
  (Spec.applies_iff w_frames).mpr ⟨w_running, w_runnable, w_alone, w_named, w_hears, w_ripe, w_room, w_tables⟩
theorem atStart : AtStart classFile x code maxLocals ret World_1 tables_1 room_1 Calls_1 rest_1 Pre_1 launch0 p0 e0 about1 theMethod args0 below0 :=
  ⟨lists_1, trivial, launch0.admits_env _ _ _, launch0.least_env, fairChoices_fair.cas, fairChoices_fair.clock, w_frames, w_args, w_heap, w_applies, trivial, trivial, w_case⟩
end start1
theorem witness_1 : WitnessClaimed_1 := ⟨start1.p0, start1.e0, start1.about1, start1.theMethod, start1.args0, start1.below0, start1.atStart⟩
end Jvm.Pilot.@@N@@
