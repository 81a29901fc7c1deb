import JvmDerived
import JvmDerived.Pilot.@@N@@Statement
import JvmDerived.Pilot.@@N@@Code
set_option linter.unusedVariables false
set_option linter.unusedSimpArgs false

namespace Jvm.RoadKit
open Sem ClassFile Op Lib Jvm.Stand Jvm.Free Jvm.LawKit
section New
variable {p : Program} {l : Launch} {e : Env} {R : Room} {s : State} {m : MethodId} {args : Array Value} {below : List Frame} {meth : Method} {c : Code} {T : State} {locs : List Loc} {cells slots : Nat}
theorem retI (X : Stand p l e R s m args below meth c T locs cells slots) (hx : p.tables.exec = Jvm.exec) {pc : Nat} {Ls : Array Slot} {z : Int32} {rest : List Value} (hret : meth.sig.returnType = some .int) (hd : decode c.code pc = .ok (.ireturn, 1)) {fs : List Frame}
    (hl : ∀ (f : JFrame) (acts : List Action), f.method = m → f.locked = none → f.entered = [] → (doReturn e (T.setTop f) acts (some (.int z))).1 = T.setFrames fs) : Steps p.tables e below (T.setTop (mkF m pc Ls (.int z :: rest))) (T.setFrames fs) := by
  have hm' : T.vm.method? m = some meth := X.method'
  have hn : narrow .int (.int z) = .int z := rfl
  show Steps p.tables e below (T.setTop { method := m, pc := pc, locals := Ls, stack := _ :: rest, locked := none }) _
  jvm_step X.here [X.here.top, hx, hd, hm', hret, hn]
  first | (intro acts; rw [hl _ acts rfl rfl rfl]) | rw [hl _ _ rfl rfl rfl]
  exact Steps.refl _
end New
end Jvm.RoadKit

namespace Jvm.Pilot.@@N@@
open Jvm Jvm.ClassFile Sem Op Lib Jvm.Free Jvm.Stand Jvm.LawKit Jvm.RoadKit Bundle Jvm.Pilot.@@N@@.Jvm.D

def own_cmp (a b : Int64) : Int32 := if (lcmpW a b) < (0 : Int32) then (-1 : Int32) else (if (lcmpW a b) = (0 : Int32) then (0 : Int32) else (1 : Int32))
theorem own_w0 {q W : Int64} (h : W = (q &&& (9223372036854775807 : Int64))) : ¬ W < (0 : Int64) := by
  have h1 := c_maskL q (9223372036854775807 : Int64) 63 (by decide) (by decide)
  rw [← h] at h1
  rw [Int64.lt_iff_toInt_lt, h1]
  have a : (0 : Int64).toInt = 0 := rfl
  omega
theorem own_cmp_lt {a b : Int64} (h : a < b) : own_cmp a b = (-1 : Int32) := if_pos ((lw_lt a b).mpr h)
theorem own_cmp_eq (a : Int64) : own_cmp a a = (0 : Int32) := by
  unfold own_cmp
  rw [if_neg (fun q => Int64.lt_irrefl ((lw_lt a a).mp q)), if_pos ((lw_eq a a).mpr rfl)]
theorem own_cmp_gt {a b : Int64} (h : b < a) : own_cmp a b = (1 : Int32) := by
  unfold own_cmp
  rw [if_neg (fun q => Int64.lt_asymm ((lw_lt a b).mp q) h), if_neg (fun q => by have e := (lw_eq a b).mp q; subst e; exact Int64.lt_irrefl h)]
theorem own_ee (W : Int64) : own_cmp W W = (0 : Int32) := own_cmp_eq W
theorem own_fe {F : Int64} (h : F = (0 : Int64)) : (0 : Int32) = own_cmp ((0 : Int64) + (-9223372036854775808 : Int64)) (F + (-9223372036854775808 : Int64)) := by
  subst h; exact (own_cmp_eq _).symm
theorem own_sub1 {W : Int64} (h0 : ¬ W < (0 : Int64)) (hz : ¬ W = (0 : Int64)) : (W - (1 : Int64)).toInt = W.toInt - 1 ∧ 0 < W.toInt := by
  have r := rng64 W
  have c := c_lsub W (1 : Int64)
  have r' := rng64 (W - (1 : Int64))
  have a : (0 : Int64).toInt = 0 := rfl
  have b : (1 : Int64).toInt = 1 := rfl
  rw [Int64.lt_iff_toInt_lt, a] at h0
  have hz' : W.toInt ≠ 0 := fun q => hz (Int64.toInt_inj.mp (q.trans a.symm))
  rw [b] at c
  omega
theorem own_d0 {W : Int64} (h0 : ¬ W < (0 : Int64)) (hz : ¬ W = (0 : Int64)) : ¬ (W - (1 : Int64)) < (0 : Int64) := by
  have h := own_sub1 h0 hz
  have a : (0 : Int64).toInt = 0 := rfl
  rw [Int64.lt_iff_toInt_lt, a]; omega
theorem own_dn {W : Int64} (h0 : ¬ W < (0 : Int64)) (hz : ¬ W = (0 : Int64)) : (¬ own_cmp (W - (1 : Int64)) W = (0 : Int32)) ∧ (-1 : Int32) = own_cmp (W - (1 : Int64)) W := by
  have h := own_sub1 h0 hz
  have l : (W - (1 : Int64)) < W := by rw [Int64.lt_iff_toInt_lt]; omega
  rw [own_cmp_lt l]; decide
theorem own_add1 {W : Int64} (h0 : ¬ W < (0 : Int64)) (hm : ¬ W = (9223372036854775807 : Int64)) : (W + (1 : Int64)).toInt = W.toInt + 1 ∧ 0 ≤ W.toInt := by
  have r := rng64 W
  have c := c_ladd W (1 : Int64)
  have r' := rng64 (W + (1 : Int64))
  have a : (0 : Int64).toInt = 0 := rfl
  have b : (1 : Int64).toInt = 1 := rfl
  have m : (9223372036854775807 : Int64).toInt = 9223372036854775807 := by decide
  rw [Int64.lt_iff_toInt_lt, a] at h0
  have hz' : W.toInt ≠ 9223372036854775807 := fun q => hm (Int64.toInt_inj.mp (q.trans m.symm))
  rw [b] at c
  omega
theorem own_u0 {W : Int64} (h0 : ¬ W < (0 : Int64)) (hm : ¬ W = (9223372036854775807 : Int64)) : ¬ (W + (1 : Int64)) < (0 : Int64) := by
  have h := own_add1 h0 hm
  have a : (0 : Int64).toInt = 0 := rfl
  rw [Int64.lt_iff_toInt_lt, a]; omega
theorem own_un {W : Int64} (h0 : ¬ W < (0 : Int64)) (hm : ¬ W = (9223372036854775807 : Int64)) : (¬ own_cmp (W + (1 : Int64)) W = (0 : Int32)) ∧ (1 : Int32) = own_cmp (W + (1 : Int64)) W := by
  have h := own_add1 h0 hm
  have l : W < (W + (1 : Int64)) := by rw [Int64.lt_iff_toInt_lt]; omega
  rw [own_cmp_gt l]; decide
theorem own_uz {W : Int64} (h0 : ¬ W < (0 : Int64)) (hm : ¬ W = (9223372036854775807 : Int64)) : ¬ (W + (1 : Int64)) = (0 : Int64) := by
  have h := own_add1 h0 hm
  intro q
  have a : (0 : Int64).toInt = 0 := rfl
  rw [q, a] at h; omega
theorem own_cancel (W : Int64) : W + (1 : Int64) - (1 : Int64) = W := Int64.add_sub_cancel W 1
theorem own_ud {W : Int64} (h0 : ¬ W < (0 : Int64)) : ¬ (W + (1 : Int64) - (1 : Int64)) < (0 : Int64) := by rw [own_cancel]; exact h0
theorem own_ue (W : Int64) : own_cmp (W + (1 : Int64) - (1 : Int64)) W = (0 : Int32) := by rw [own_cancel]; exact own_cmp_eq W
theorem own_fn {F : Int64} (h : ¬ F = (0 : Int64)) : (-1 : Int32) = own_cmp ((0 : Int64) + (-9223372036854775808 : Int64)) (F + (-9223372036854775808 : Int64)) := by
  refine (own_cmp_lt ?_).symm
  rw [Int64.lt_iff_toInt_lt]
  have a : (0 : Int64).toInt = 0 := rfl
  have m : (-9223372036854775808 : Int64).toInt = -9223372036854775808 := by decide
  have l : ((0 : Int64) + (-9223372036854775808 : Int64)).toInt = -9223372036854775808 := by decide
  have c := c_ladd F (-9223372036854775808 : Int64)
  have r := rng64 F
  have r' := rng64 (F + (-9223372036854775808 : Int64))
  have hz : F.toInt ≠ 0 := fun q => h (Int64.toInt_inj.mp (q.trans a.symm))
  rw [m] at c
  rw [l]
  omega

theorem d2_0 : decode jdk_30_method_1_code 0 = .ok (.aload_n 0, 1) := by decide +kernel
theorem d2_1 : decode jdk_30_method_1_code 1 = .ok (.invokespecial 1, 3) := by decide +kernel
theorem d2_4 : decode jdk_30_method_1_code 4 = .ok (.return_, 1) := by decide +kernel
theorem pn_1 : plainName "java/lang/Record" = true := by first | (simp [plainName, overriddenIn]; done) | decide +kernel
theorem ef_2 (m : MethodId) (x0 : Addr) : entryFrame m #[(.ref x0)] 1 = mkF m 0 #[.val (.ref x0)] [] := by first | (simp [entryFrame, mkF, argsToLocals, Value.category]; done) | rfl
def Q2 (Z : State) (a1 : Addr)  (h0 : Heap) (n0 : Nat) (v : Option Value) (h : Heap) (L : List Loc) : Prop := v = none ∧ Fr n0 L ∧ h = h0
set_option maxRecDepth 65536 in
set_option maxHeartbeats 40000000 in
theorem rm2 (l : Launch) (Z : State) (a0 : Array Value) (hw : ∀ d ∈ tables_1, d.before a0 Z = true) (ws : List Jvm.Cond) (a1 : Addr)  (h0 : Heap) (n0 : Nat) (Z0 : n0 ≤ h0.size)  :
    MetFree l (⟨"java/lang/Record", "<init>", "()V"⟩ : MethodName) (head1 (Jvm.Cond.code (⟨"java/lang/Record", "<init>", "()V"⟩ : MethodName) jdk_30_method_1_code 1 none :: ws) ({ frames := 1, cells := 0, slots := 0, locals := 12 } : Room)) (fun a U => a = #[(.ref a1)] ∧ Z.Warmed39 U.vm ∧ U.heap = h0) (fun _ _ _ _ _ => True) (fun _ U o U' => ∃ v L, o = .returned v ∧ Q2 Z a1  h0 n0 v U'.heap L ∧ FrameEnd U o U' L ({ frames := 1, cells := 0, slots := 0, locals := 12 } : Room).cells ({ frames := 1, cells := 0, slots := 0, locals := 12 } : Room).slots) := by
  refine MetFree.of_bodySF (plainFor_of_name pn_1) hisR ?_
  intro p e s m args below meth c s₁ Bd hml0 hP hK
  obtain ⟨rfl, hZ, hh⟩ := hP
  have hx := Bd.exec
  have hby := Bd.bytes
  have hml : c.maxLocals = 1 := hml0
  have hown : s.vm.findClass "java/lang/Record" = some m.cls := findClass_of_methodNamed Bd.named
  have hnm := (name_of_methodNamed Bd.named Bd.method).1
  have X0 : Stand p l e ({ frames := 1, cells := 0, slots := 0, locals := 12 } : Room) s m #[(.ref a1)] below meth c s₁ [] 0 0 := Stand.of_body Bd
  have e0 : s₁.heap = h0 := by rw [← hh, Bd.state]; rfl
  have N0 := Fr.nil n0
  have pre0 : ∀ t, Steps p.tables e below (s₁.setTop (mkF m 0 #[.val (.ref a1)] [])) t → Steps p.tables e below (s₁.setTop (entryFrame m #[(.ref a1)] 1)) t := fun t k => castTop (ef_2 m a1) k
  obtain ⟨T1, X1, e1, st1⟩ := initO X0 hx hZ hown (hw _ (List.mem_of_getElem? (i := 12) rfl)) (hw _ (List.mem_of_getElem? (i := 13) rfl)) (hw _ (List.mem_of_getElem? (i := 14) rfl)) e0 (g := (mkF m 1 #[.val (.ref a1)] [(.ref a1)])) rfl (by rw [hml]; rfl) rfl (hb hby d2_1) (by decide) (W := 0) (by show 2 * 0 + _ ≤ _; exact Nat.le_of_eq rfl) (by decide)
  obtain ⟨fs, hr, hrun, hended, hW, hsame⟩ := X1.leave (v := none) (fun _ => rfl)
  refine ⟨_, _, pre0 _ ?_, hrun, hended, _, _, rfl, ?_, ⟨_, rfl⟩, hW, hsame.mono (by decide) (by decide)⟩
  · show Steps p.tables e below (s₁.setTop (mkF m 0 #[.val (.ref a1)] [])) _
    refine XS.aloadN X0.here hx rfl (hb hby d2_0) rfl rfl ?_
    show Steps p.tables e below (s₁.setTop (mkF m 1 #[.val (.ref a1)] [(.ref a1)])) _
    refine st1 _ ?_
    show Steps p.tables e below (T1.setTop (mkF m 4 #[.val (.ref a1)] [])) _
    exact X1.returnOut hx Bd.returns (hb hby d2_4) hr
  · show Q2 Z a1  h0 n0 _ T1.heap _
    rw [e1]
    exact ⟨rfl, N0, rfl⟩

theorem d1_0 : decode prog_13_method_1_code 0 = .ok (.aload_n 0, 1) := by decide +kernel
theorem pd_0 : parseMethodDescriptor "()V" = some ⟨[], none⟩ := by decide +kernel
theorem d1_1 : decode prog_13_method_1_code 1 = .ok (.invokespecial 1, 3) := by decide +kernel
theorem d1_4 : decode prog_13_method_1_code 4 = .ok (.lload_n 1, 1) := by decide +kernel
theorem d1_5 : decode prog_13_method_1_code 5 = .ok (.lconst 0, 1) := by decide +kernel
theorem d1_6 : decode prog_13_method_1_code 6 = .ok (.lcmp, 1) := by decide +kernel
theorem d1_7 : decode prog_13_method_1_code 7 = .ok (.ifCond .ge 17, 3) := by decide +kernel
theorem d1_24 : decode prog_13_method_1_code 24 = .ok (.aload_n 0, 1) := by decide +kernel
theorem d1_25 : decode prog_13_method_1_code 25 = .ok (.lload_n 1, 1) := by decide +kernel
theorem d1_26 : decode prog_13_method_1_code 26 = .ok (.putfield 16, 3) := by decide +kernel
theorem d1_29 : decode prog_13_method_1_code 29 = .ok (.aload_n 0, 1) := by decide +kernel
theorem d1_30 : decode prog_13_method_1_code 30 = .ok (.lload_n 3, 1) := by decide +kernel
theorem d1_31 : decode prog_13_method_1_code 31 = .ok (.putfield 22, 3) := by decide +kernel
theorem d1_34 : decode prog_13_method_1_code 34 = .ok (.return_, 1) := by decide +kernel
theorem pn_2 : plainName "com/example/rate_gate/rategate/algorithm/Seconds" = true := by first | (simp [plainName, overriddenIn]; done) | decide +kernel
theorem ef_1 (m : MethodId) (x0 : Addr) (x1 : Int64) (x2 : Int64) : entryFrame m #[(.ref x0), (.long x1), (.long x2)] 5 = mkF m 0 #[.val (.ref x0), .val (.long x1), .second, .val (.long x2), .second] [] := by first | (simp [entryFrame, mkF, argsToLocals, Value.category]; done) | rfl
def Q1 (Z : State) (a1 : Addr) (q2 : Int64) (q3 : Int64) (u0 : Value) (u1 : Value) (h0 : Heap) (n0 : Nat) (v : Option Value) (h : Heap) (L : List Loc) : Prop := v = none ∧ Fr n0 L ∧ Keep h0 h [a1] ∧ Exa Z h a1 "com/example/rate_gate/rategate/algorithm/Seconds" ∧ Fld Z h a1 "com/example/rate_gate/rategate/algorithm/Seconds" "whole" "J" (.long q2) ∧ Fld Z h a1 "com/example/rate_gate/rategate/algorithm/Seconds" "fraction" "J" (.long q3)
set_option maxRecDepth 65536 in
set_option maxHeartbeats 40000000 in
theorem rm1 (l : Launch) (Z : State) (a0 : Array Value) (hw : ∀ d ∈ tables_1, d.before a0 Z = true) (ws : List Jvm.Cond) (a1 : Addr) (q2 : Int64) (q3 : Int64) (u0 : Value) (u1 : Value) (h0 : Heap) (n0 : Nat) (Z0 : n0 ≤ h0.size) (g_a1 : n0 ≤ a1) (E_a1 : Exa Z h0 a1 "com/example/rate_gate/rategate/algorithm/Seconds") (F_w : Fld Z h0 a1 "com/example/rate_gate/rategate/algorithm/Seconds" "whole" "J" u0) (F_f : Fld Z h0 a1 "com/example/rate_gate/rategate/algorithm/Seconds" "fraction" "J" u1) (hq : ¬ q2 < (0 : Int64)) :
    MetFree l (⟨"com/example/rate_gate/rategate/algorithm/Seconds", "<init>", "(JJ)V"⟩ : MethodName) (head1 (Jvm.Cond.code (⟨"com/example/rate_gate/rategate/algorithm/Seconds", "<init>", "(JJ)V"⟩ : MethodName) prog_13_method_1_code 5 none :: ws) ({ frames := 2, cells := 0, slots := 0, locals := 24 } : Room)) (fun a U => a = #[(.ref a1), (.long q2), (.long q3)] ∧ Z.Warmed39 U.vm ∧ U.heap = h0) (fun _ _ _ _ _ => True) (fun _ U o U' => ∃ v L, o = .returned v ∧ Q1 Z a1 q2 q3 u0 u1 h0 n0 v U'.heap L ∧ FrameEnd U o U' L ({ frames := 2, cells := 0, slots := 0, locals := 24 } : Room).cells ({ frames := 2, cells := 0, slots := 0, locals := 24 } : Room).slots) := by
  refine MetFree.of_bodySF (plainFor_of_name pn_2) hisR ?_
  intro p e s m args below meth c s₁ Bd hml0 hP hK
  obtain ⟨rfl, hZ, hh⟩ := hP
  have hx := Bd.exec
  have hby := Bd.bytes
  have hml : c.maxLocals = 5 := hml0
  have hown : s.vm.findClass "com/example/rate_gate/rategate/algorithm/Seconds" = some m.cls := findClass_of_methodNamed Bd.named
  have hnm := (name_of_methodNamed Bd.named Bd.method).1
  have X0 : Stand p l e ({ frames := 2, cells := 0, slots := 0, locals := 24 } : Room) s m #[(.ref a1), (.long q2), (.long q3)] below meth c s₁ [] 0 0 := Stand.of_body Bd
  have e0 : s₁.heap = h0 := by rw [← hh, Bd.state]; rfl
  have N0 := Fr.nil n0
  have pre0 : ∀ t, Steps p.tables e below (s₁.setTop (mkF m 0 #[.val (.ref a1), .val (.long q2), .second, .val (.long q3), .second] [])) t → Steps p.tables e below (s₁.setTop (entryFrame m #[(.ref a1), (.long q2), (.long q3)] 5)) t := fun t k => castTop (ef_1 m a1 q2 q3) k
  obtain ⟨_, _, ⟨T1, L1, k1, n1⟩, -, X1, ⟨Lc1, hQ1, l1, y1, z1⟩, st1⟩ := X0.specialBack hx (y := (⟨"java/lang/Record", "<init>", "()V"⟩ : MethodName)) rfl hown (mvT hZ (hw _ (List.mem_of_getElem? (i := 7) rfl))) (mvT hZ (hw _ (List.mem_of_getElem? (i := 8) rfl))) (mvT hZ (hw _ (List.mem_of_getElem? (i := 11) rfl))) (by decide) (backOf (W := 0) (rm2 l Z a0 hw [] a1 h0 n0 Z0) hZ (hw _ (List.mem_of_getElem? (i := 11) rfl)) (hw _ (List.mem_of_getElem? (i := 10) rfl)) (by decide) (by decide)) (g := (mkF m 1 #[.val (.ref a1), .val (.long q2), .second, .val (.long q3), .second] [(.ref a1)])) rfl (by rw [hml]; rfl) (Steps.refl _) (a := a1) (argsL := []) (rest := []) (lenOf pd_0 rfl) rfl (by show 2 * 0 + _ ≤ _; exact Nat.le_of_eq rfl) (hb hby d1_1) (fun _ _ => ⟨rfl, e0, (by decide : 0 + 0 ≤ _), (by decide : 0 + 0 ≤ _)⟩)
  dsimp only [Pt.U, Pt.locs, Pt.cells, Pt.slots] at X1 l1 y1 z1 st1 hQ1
  subst l1 y1 z1
  obtain ⟨rfl, N1q, e1⟩ := hQ1
  have N1 := Fr.app N0 N1q
  obtain ⟨T2, h2, X2, e2, W2, st2⟩ := putF X1 hx hZ hown (host := "") (Or.inl (hw _ (List.mem_of_getElem? (i := 15) rfl))) Via.refl e1 F_w E_a1 (Or.inr ⟨(hw _ (List.mem_of_getElem? (i := 16) rfl)), rfl, hnm⟩) (hw _ (List.mem_of_getElem? (i := 2) rfl)) (ty := .long) (by decide) rfl rfl (g := (mkF m 26 #[.val (.ref a1), .val (.long q2), .second, .val (.long q3), .second] [(.long q2), (.ref a1)])) rfl rfl (hb hby d1_26)
  have Fw2 := F_w.same W2
  have E_a1_h2 := (E_a1.wr W2)
  have F_f_h2 := (F_f.other W2 (Or.inr (slot_ne (Or.inr (hw _ (List.mem_of_getElem? (i := 18) rfl))) (Or.inr (hw _ (List.mem_of_getElem? (i := 16) rfl))) (by decide) (t := .long) (t' := .long) (by decide) (by decide))))
  have Z2 := (Nat.le_trans Z0 (Keep.of_wr W2).1)
  have KK2 := (Keep.refl h0 [a1]).wr W2 (Or.inl (by simp))
  have N2 := Fr.snoc X2 N1 g_a1
  obtain ⟨T3, h3, X3, e3, W3, st3⟩ := putF X2 hx hZ hown (host := "") (Or.inl (hw _ (List.mem_of_getElem? (i := 17) rfl))) Via.refl e2 F_f_h2 E_a1_h2 (Or.inr ⟨(hw _ (List.mem_of_getElem? (i := 18) rfl)), rfl, hnm⟩) (hw _ (List.mem_of_getElem? (i := 2) rfl)) (ty := .long) (by decide) rfl rfl (g := (mkF m 31 #[.val (.ref a1), .val (.long q2), .second, .val (.long q3), .second] [(.long q3), (.ref a1)])) rfl rfl (hb hby d1_31)
  have Fw3 := F_f_h2.same W3
  have E_a1_h3 := (E_a1_h2.wr W3)
  have Fw2_h3 := (Fw2.other W3 (Or.inr (slot_ne (Or.inr (hw _ (List.mem_of_getElem? (i := 16) rfl))) (Or.inr (hw _ (List.mem_of_getElem? (i := 18) rfl))) (by decide) (t := .long) (t' := .long) (by decide) (by decide))))
  have Z3 := (Nat.le_trans Z2 (Keep.of_wr W3).1)
  have KK3 := KK2.wr W3 (Or.inl (by simp))
  have N3 := Fr.snoc X3 N2 g_a1
  obtain ⟨fs, hr, hrun, hended, hW, hsame⟩ := X3.leave (v := none) (fun _ => rfl)
  refine ⟨_, _, pre0 _ ?_, hrun, hended, _, _, rfl, ?_, ⟨_, rfl⟩, hW, hsame.mono (by decide) (by decide)⟩
  · show Steps p.tables e below (s₁.setTop (mkF m 0 #[.val (.ref a1), .val (.long q2), .second, .val (.long q3), .second] [])) _
    refine XS.aloadN X0.here hx rfl (hb hby d1_0) rfl rfl ?_
    show Steps p.tables e below (s₁.setTop (mkF m 1 #[.val (.ref a1), .val (.long q2), .second, .val (.long q3), .second] [(.ref a1)])) _
    refine st1.trans ?_
    show Steps p.tables e below (T1.setTop (mkF m 4 #[.val (.ref a1), .val (.long q2), .second, .val (.long q3), .second] [])) _
    refine XS.lloadN X1.here hx rfl (hb hby d1_4) rfl ?_
    show Steps p.tables e below (T1.setTop (mkF m 5 #[.val (.ref a1), .val (.long q2), .second, .val (.long q3), .second] [(.long q2)])) _
    refine XS.lconst X1.here hx rfl (hb hby d1_5) ?_
    show Steps p.tables e below (T1.setTop (mkF m 6 #[.val (.ref a1), .val (.long q2), .second, .val (.long q3), .second] [(.long (0 : Int64)), (.long q2)])) _
    refine XS.lcmp X1.here hx rfl (hb hby d1_6) rfl ?_
    show Steps p.tables e below (T1.setTop (mkF m 7 #[.val (.ref a1), .val (.long q2), .second, .val (.long q3), .second] [(.int (lcmpW q2 (0 : Int64)))])) _
    refine XS.ifYes X1.here hx rfl (pc0 := 7) (pc' := 24) rfl (hb hby d1_7) rfl ((if0 _ _).trans (flt (fun q => hq ((lw_lt _ _).mp q) : ¬ ((lcmpW q2 (0 : Int64)) < (0 : Int32)))).2.1) (by decide) (by decide) ?_
    show Steps p.tables e below (T1.setTop (mkF m 24 #[.val (.ref a1), .val (.long q2), .second, .val (.long q3), .second] [])) _
    refine XS.aloadN X1.here hx rfl (hb hby d1_24) rfl rfl ?_
    show Steps p.tables e below (T1.setTop (mkF m 25 #[.val (.ref a1), .val (.long q2), .second, .val (.long q3), .second] [(.ref a1)])) _
    refine XS.lloadN X1.here hx rfl (hb hby d1_25) rfl ?_
    show Steps p.tables e below (T1.setTop (mkF m 26 #[.val (.ref a1), .val (.long q2), .second, .val (.long q3), .second] [(.long q2), (.ref a1)])) _
    refine st2 _ ?_
    show Steps p.tables e below (T2.setTop (mkF m 29 #[.val (.ref a1), .val (.long q2), .second, .val (.long q3), .second] [])) _
    refine XS.aloadN X2.here hx rfl (hb hby d1_29) rfl rfl ?_
    show Steps p.tables e below (T2.setTop (mkF m 30 #[.val (.ref a1), .val (.long q2), .second, .val (.long q3), .second] [(.ref a1)])) _
    refine XS.lloadN X2.here hx rfl (hb hby d1_30) rfl ?_
    show Steps p.tables e below (T2.setTop (mkF m 31 #[.val (.ref a1), .val (.long q2), .second, .val (.long q3), .second] [(.long q3), (.ref a1)])) _
    refine st3 _ ?_
    show Steps p.tables e below (T3.setTop (mkF m 34 #[.val (.ref a1), .val (.long q2), .second, .val (.long q3), .second] [])) _
    exact X3.returnOut hx Bd.returns (hb hby d1_34) hr
  · show Q1 Z a1 q2 q3 u0 u1 h0 n0 _ T3.heap _
    rw [e3]
    exact ⟨rfl, N3, KK3, E_a1_h3, Fw2_h3, Fw3⟩

theorem d4_0 : decode prog_13_method_8_code 0 = .ok (.aload_n 0, 1) := by decide +kernel
theorem d4_1 : decode prog_13_method_8_code 1 = .ok (.getfield 22, 3) := by decide +kernel
theorem d4_4 : decode prog_13_method_8_code 4 = .ok (.lconst 0, 1) := by decide +kernel
theorem d4_5 : decode prog_13_method_8_code 5 = .ok (.lcmp, 1) := by decide +kernel
theorem d4_6 : decode prog_13_method_8_code 6 = .ok (.ifCond .ne 10, 3) := by decide +kernel
theorem d4_9 : decode prog_13_method_8_code 9 = .ok (.aload_n 0, 1) := by decide +kernel
theorem d4_10 : decode prog_13_method_8_code 10 = .ok (.getfield 16, 3) := by decide +kernel
theorem d4_13 : decode prog_13_method_8_code 13 = .ok (.goto 9, 3) := by decide +kernel
theorem d4_22 : decode prog_13_method_8_code 22 = .ok (.lreturn, 1) := by decide +kernel
theorem ef_4z (m : MethodId) (x0 : Addr) : entryFrame m #[(.ref x0)] 1 = mkF m 0 #[.val (.ref x0)] [] := by first | (simp [entryFrame, mkF, argsToLocals, Value.category]; done) | rfl
def Q4z (Z : State) (a1 : Addr) (w1 : Int64) (w2 : Int64) (h0 : Heap) (n0 : Nat) (v : Option Value) (h : Heap) (L : List Loc) : Prop := v = some (.long w1) ∧ Fr n0 L ∧ h = h0
set_option maxRecDepth 65536 in
set_option maxHeartbeats 40000000 in
theorem rm4z (l : Launch) (Z : State) (a0 : Array Value) (hw : ∀ d ∈ tables_1, d.before a0 Z = true) (ws : List Jvm.Cond) (a1 : Addr) (w1 : Int64) (w2 : Int64) (h0 : Heap) (n0 : Nat) (Z0 : n0 ≤ h0.size) (F_w : Fld Z h0 a1 "com/example/rate_gate/rategate/algorithm/Seconds" "whole" "J" (.long w1)) (F_f : Fld Z h0 a1 "com/example/rate_gate/rategate/algorithm/Seconds" "fraction" "J" (.long w2)) (hz : w2 = (0 : Int64)) :
    MetFree l (⟨"com/example/rate_gate/rategate/algorithm/Seconds", "roundedUp", "()J"⟩ : MethodName) (head1 (Jvm.Cond.code (⟨"com/example/rate_gate/rategate/algorithm/Seconds", "roundedUp", "()J"⟩ : MethodName) prog_13_method_8_code 1 (some .long) :: ws) ({ frames := 0, cells := 0, slots := 0, locals := 0 } : Room)) (fun a U => a = #[(.ref a1)] ∧ Z.Warmed39 U.vm ∧ U.heap = h0) (fun _ _ _ _ _ => True) (fun _ U o U' => ∃ v L, o = .returned v ∧ Q4z Z a1 w1 w2 h0 n0 v U'.heap L ∧ FrameEnd U o U' L ({ frames := 0, cells := 0, slots := 0, locals := 0 } : Room).cells ({ frames := 0, cells := 0, slots := 0, locals := 0 } : Room).slots) := by
  refine MetFree.of_bodySF (plainFor_of_name pn_2) hisR ?_
  intro p e s m args below meth c s₁ Bd hml0 hP hK
  obtain ⟨rfl, hZ, hh⟩ := hP
  have hx := Bd.exec
  have hby := Bd.bytes
  have hml : c.maxLocals = 1 := hml0
  have hown : s.vm.findClass "com/example/rate_gate/rategate/algorithm/Seconds" = some m.cls := findClass_of_methodNamed Bd.named
  have hnm := (name_of_methodNamed Bd.named Bd.method).1
  have X0 : Stand p l e ({ frames := 0, cells := 0, slots := 0, locals := 0 } : Room) s m #[(.ref a1)] below meth c s₁ [] 0 0 := Stand.of_body Bd
  have e0 : s₁.heap = h0 := by rw [← hh, Bd.state]; rfl
  have N0 := Fr.nil n0
  have pre0 : ∀ t, Steps p.tables e below (s₁.setTop (mkF m 0 #[.val (.ref a1)] [])) t → Steps p.tables e below (s₁.setTop (entryFrame m #[(.ref a1)] 1)) t := fun t k => castTop (ef_4z m a1) k
  obtain ⟨T1, X1, e1, st1⟩ := getF X0 hx hZ hown (host := "") (Or.inl (hw _ (List.mem_of_getElem? (i := 17) rfl))) Via.refl e0 F_f (g := (mkF m 1 #[.val (.ref a1)] [(.ref a1)])) rfl rfl (hb hby d4_1)
  obtain ⟨T2, X2, e2, st2⟩ := getF X1 hx hZ hown (host := "") (Or.inl (hw _ (List.mem_of_getElem? (i := 15) rfl))) Via.refl e1 F_w (g := (mkF m 10 #[.val (.ref a1)] [(.ref a1)])) rfl rfl (hb hby d4_10)
  obtain ⟨fs, hr, hrun, hended, hW, hsame⟩ := X2.leave (v := some (.long w1)) (fun h => by rw [Bd.returns] at h; cases h)
  refine ⟨_, _, pre0 _ ?_, hrun, hended, _, _, rfl, ?_, ⟨_, rfl⟩, hW, hsame.mono (by decide) (by decide)⟩
  · show Steps p.tables e below (s₁.setTop (mkF m 0 #[.val (.ref a1)] [])) _
    refine XS.aloadN X0.here hx rfl (hb hby d4_0) rfl rfl ?_
    show Steps p.tables e below (s₁.setTop (mkF m 1 #[.val (.ref a1)] [(.ref a1)])) _
    refine st1 _ ?_
    show Steps p.tables e below (T1.setTop (mkF m 4 #[.val (.ref a1)] [(.long w2)])) _
    refine XS.lconst X1.here hx rfl (hb hby d4_4) ?_
    show Steps p.tables e below (T1.setTop (mkF m 5 #[.val (.ref a1)] [(.long (0 : Int64)), (.long w2)])) _
    refine XS.lcmp X1.here hx rfl (hb hby d4_5) rfl ?_
    show Steps p.tables e below (T1.setTop (mkF m 6 #[.val (.ref a1)] [(.int (lcmpW w2 (0 : Int64)))])) _
    refine XS.ifNo X1.here hx rfl (hb hby d4_6) rfl ((if0 _ _).trans (teq ((lw_eq _ _).mpr hz : (lcmpW w2 (0 : Int64)) = (0 : Int32))).2) ?_
    show Steps p.tables e below (T1.setTop (mkF m 9 #[.val (.ref a1)] [])) _
    refine XS.aloadN X1.here hx rfl (hb hby d4_9) rfl rfl ?_
    show Steps p.tables e below (T1.setTop (mkF m 10 #[.val (.ref a1)] [(.ref a1)])) _
    refine st2 _ ?_
    show Steps p.tables e below (T2.setTop (mkF m 13 #[.val (.ref a1)] [(.long w1)])) _
    refine XS.goto X2.here hx rfl (pc0 := 13) (pc' := 22) rfl (hb hby d4_13) (by decide) (by decide) ?_
    show Steps p.tables e below (T2.setTop (mkF m 22 #[.val (.ref a1)] [(.long w1)])) _
    exact X2.lreturnOut hx Bd.returns (hb hby d4_22) hr
  · show Q4z Z a1 w1 w2 h0 n0 _ T2.heap _
    rw [e2]
    exact ⟨rfl, N0, rfl⟩

theorem d4_16 : decode prog_13_method_8_code 16 = .ok (.aload_n 0, 1) := by decide +kernel
theorem d4_17 : decode prog_13_method_8_code 17 = .ok (.getfield 16, 3) := by decide +kernel
theorem d4_20 : decode prog_13_method_8_code 20 = .ok (.lconst 1, 1) := by decide +kernel
theorem d4_21 : decode prog_13_method_8_code 21 = .ok (.ladd, 1) := by decide +kernel
theorem ef_4n (m : MethodId) (x0 : Addr) : entryFrame m #[(.ref x0)] 1 = mkF m 0 #[.val (.ref x0)] [] := by first | (simp [entryFrame, mkF, argsToLocals, Value.category]; done) | rfl
def Q4n (Z : State) (a1 : Addr) (w1 : Int64) (w2 : Int64) (h0 : Heap) (n0 : Nat) (v : Option Value) (h : Heap) (L : List Loc) : Prop := v = some (.long (w1 + (1 : Int64))) ∧ Fr n0 L ∧ h = h0
set_option maxRecDepth 65536 in
set_option maxHeartbeats 40000000 in
theorem rm4n (l : Launch) (Z : State) (a0 : Array Value) (hw : ∀ d ∈ tables_1, d.before a0 Z = true) (ws : List Jvm.Cond) (a1 : Addr) (w1 : Int64) (w2 : Int64) (h0 : Heap) (n0 : Nat) (Z0 : n0 ≤ h0.size) (F_w : Fld Z h0 a1 "com/example/rate_gate/rategate/algorithm/Seconds" "whole" "J" (.long w1)) (F_f : Fld Z h0 a1 "com/example/rate_gate/rategate/algorithm/Seconds" "fraction" "J" (.long w2)) (hz : ¬ w2 = (0 : Int64)) :
    MetFree l (⟨"com/example/rate_gate/rategate/algorithm/Seconds", "roundedUp", "()J"⟩ : MethodName) (head1 (Jvm.Cond.code (⟨"com/example/rate_gate/rategate/algorithm/Seconds", "roundedUp", "()J"⟩ : MethodName) prog_13_method_8_code 1 (some .long) :: ws) ({ frames := 0, cells := 0, slots := 0, locals := 0 } : Room)) (fun a U => a = #[(.ref a1)] ∧ Z.Warmed39 U.vm ∧ U.heap = h0) (fun _ _ _ _ _ => True) (fun _ U o U' => ∃ v L, o = .returned v ∧ Q4n Z a1 w1 w2 h0 n0 v U'.heap L ∧ FrameEnd U o U' L ({ frames := 0, cells := 0, slots := 0, locals := 0 } : Room).cells ({ frames := 0, cells := 0, slots := 0, locals := 0 } : Room).slots) := by
  refine MetFree.of_bodySF (plainFor_of_name pn_2) hisR ?_
  intro p e s m args below meth c s₁ Bd hml0 hP hK
  obtain ⟨rfl, hZ, hh⟩ := hP
  have hx := Bd.exec
  have hby := Bd.bytes
  have hml : c.maxLocals = 1 := hml0
  have hown : s.vm.findClass "com/example/rate_gate/rategate/algorithm/Seconds" = some m.cls := findClass_of_methodNamed Bd.named
  have hnm := (name_of_methodNamed Bd.named Bd.method).1
  have X0 : Stand p l e ({ frames := 0, cells := 0, slots := 0, locals := 0 } : Room) s m #[(.ref a1)] below meth c s₁ [] 0 0 := Stand.of_body Bd
  have e0 : s₁.heap = h0 := by rw [← hh, Bd.state]; rfl
  have N0 := Fr.nil n0
  have pre0 : ∀ t, Steps p.tables e below (s₁.setTop (mkF m 0 #[.val (.ref a1)] [])) t → Steps p.tables e below (s₁.setTop (entryFrame m #[(.ref a1)] 1)) t := fun t k => castTop (ef_4n m a1) k
  obtain ⟨T1, X1, e1, st1⟩ := getF X0 hx hZ hown (host := "") (Or.inl (hw _ (List.mem_of_getElem? (i := 17) rfl))) Via.refl e0 F_f (g := (mkF m 1 #[.val (.ref a1)] [(.ref a1)])) rfl rfl (hb hby d4_1)
  obtain ⟨T2, X2, e2, st2⟩ := getF X1 hx hZ hown (host := "") (Or.inl (hw _ (List.mem_of_getElem? (i := 15) rfl))) Via.refl e1 F_w (g := (mkF m 17 #[.val (.ref a1)] [(.ref a1)])) rfl rfl (hb hby d4_17)
  obtain ⟨fs, hr, hrun, hended, hW, hsame⟩ := X2.leave (v := some (.long (w1 + (1 : Int64)))) (fun h => by rw [Bd.returns] at h; cases h)
  refine ⟨_, _, pre0 _ ?_, hrun, hended, _, _, rfl, ?_, ⟨_, rfl⟩, hW, hsame.mono (by decide) (by decide)⟩
  · show Steps p.tables e below (s₁.setTop (mkF m 0 #[.val (.ref a1)] [])) _
    refine XS.aloadN X0.here hx rfl (hb hby d4_0) rfl rfl ?_
    show Steps p.tables e below (s₁.setTop (mkF m 1 #[.val (.ref a1)] [(.ref a1)])) _
    refine st1 _ ?_
    show Steps p.tables e below (T1.setTop (mkF m 4 #[.val (.ref a1)] [(.long w2)])) _
    refine XS.lconst X1.here hx rfl (hb hby d4_4) ?_
    show Steps p.tables e below (T1.setTop (mkF m 5 #[.val (.ref a1)] [(.long (0 : Int64)), (.long w2)])) _
    refine XS.lcmp X1.here hx rfl (hb hby d4_5) rfl ?_
    show Steps p.tables e below (T1.setTop (mkF m 6 #[.val (.ref a1)] [(.int (lcmpW w2 (0 : Int64)))])) _
    refine XS.ifYes X1.here hx rfl (pc0 := 6) (pc' := 16) rfl (hb hby d4_6) rfl ((if0 _ _).trans (feq (fun q => hz ((lw_eq _ _).mp q) : ¬ ((lcmpW w2 (0 : Int64)) = (0 : Int32)))).2) (by decide) (by decide) ?_
    show Steps p.tables e below (T1.setTop (mkF m 16 #[.val (.ref a1)] [])) _
    refine XS.aloadN X1.here hx rfl (hb hby d4_16) rfl rfl ?_
    show Steps p.tables e below (T1.setTop (mkF m 17 #[.val (.ref a1)] [(.ref a1)])) _
    refine st2 _ ?_
    show Steps p.tables e below (T2.setTop (mkF m 20 #[.val (.ref a1)] [(.long w1)])) _
    refine XS.lconst X2.here hx rfl (hb hby d4_20) ?_
    show Steps p.tables e below (T2.setTop (mkF m 21 #[.val (.ref a1)] [(.long (1 : Int64)), (.long w1)])) _
    refine XS.ladd X2.here hx rfl (hb hby d4_21) rfl ?_
    show Steps p.tables e below (T2.setTop (mkF m 22 #[.val (.ref a1)] [(.long (w1 + (1 : Int64)))])) _
    exact X2.lreturnOut hx Bd.returns (hb hby d4_22) hr
  · show Q4n Z a1 w1 w2 h0 n0 _ T2.heap _
    rw [e2]
    exact ⟨rfl, N0, rfl⟩

theorem d6_0 : decode jdk_35_method_42_code 0 = .ok (.lload_n 0, 1) := by decide +kernel
theorem d6_1 : decode jdk_35_method_42_code 1 = .ok (.lload_n 2, 1) := by decide +kernel
theorem d6_2 : decode jdk_35_method_42_code 2 = .ok (.lcmp, 1) := by decide +kernel
theorem d6_3 : decode jdk_35_method_42_code 3 = .ok (.ifCond .ge 7, 3) := by decide +kernel
theorem d6_6 : decode jdk_35_method_42_code 6 = .ok (.iconst (-1), 1) := by decide +kernel
theorem d6_7 : decode jdk_35_method_42_code 7 = .ok (.goto 14, 3) := by decide +kernel
theorem d6_10 : decode jdk_35_method_42_code 10 = .ok (.lload_n 0, 1) := by decide +kernel
theorem d6_11 : decode jdk_35_method_42_code 11 = .ok (.lload_n 2, 1) := by decide +kernel
theorem d6_12 : decode jdk_35_method_42_code 12 = .ok (.lcmp, 1) := by decide +kernel
theorem d6_13 : decode jdk_35_method_42_code 13 = .ok (.ifCond .ne 7, 3) := by decide +kernel
theorem d6_16 : decode jdk_35_method_42_code 16 = .ok (.iconst 0, 1) := by decide +kernel
theorem d6_17 : decode jdk_35_method_42_code 17 = .ok (.goto 4, 3) := by decide +kernel
theorem d6_20 : decode jdk_35_method_42_code 20 = .ok (.iconst 1, 1) := by decide +kernel
theorem d6_21 : decode jdk_35_method_42_code 21 = .ok (.ireturn, 1) := by decide +kernel
theorem pn_3 : plainName "java/lang/Long" = true := by first | (simp [plainName, overriddenIn]; done) | decide +kernel
theorem ef_6 (m : MethodId) (x0 : Int64) (x1 : Int64) : entryFrame m #[(.long x0), (.long x1)] 4 = mkF m 0 #[.val (.long x0), .second, .val (.long x1), .second] [] := by first | (simp [entryFrame, mkF, argsToLocals, Value.category]; done) | rfl
def Q6 (Z : State) (q1 : Int64) (q2 : Int64) (r : Int32) (h0 : Heap) (n0 : Nat) (v : Option Value) (h : Heap) (L : List Loc) : Prop := v = some (.int r) ∧ Fr n0 L ∧ h = h0
set_option maxRecDepth 65536 in
set_option maxHeartbeats 40000000 in
theorem rm6 (l : Launch) (Z : State) (a0 : Array Value) (hw : ∀ d ∈ tables_1, d.before a0 Z = true) (ws : List Jvm.Cond) (q1 : Int64) (q2 : Int64) (r : Int32) (h0 : Heap) (n0 : Nat) (Z0 : n0 ≤ h0.size) (hr0 : r = own_cmp q1 q2) :
    MetFree l (⟨"java/lang/Long", "compare", "(JJ)I"⟩ : MethodName) (head1 (Jvm.Cond.code (⟨"java/lang/Long", "compare", "(JJ)I"⟩ : MethodName) jdk_35_method_42_code 4 (some .int) :: ws) ({ frames := 0, cells := 0, slots := 0, locals := 0 } : Room)) (fun a U => a = #[(.long q1), (.long q2)] ∧ Z.Warmed39 U.vm ∧ U.heap = h0) (fun _ _ _ _ _ => True) (fun _ U o U' => ∃ v L, o = .returned v ∧ Q6 Z q1 q2 r h0 n0 v U'.heap L ∧ FrameEnd U o U' L ({ frames := 0, cells := 0, slots := 0, locals := 0 } : Room).cells ({ frames := 0, cells := 0, slots := 0, locals := 0 } : Room).slots) := by
  refine MetFree.of_bodySF (plainFor_of_name pn_3) hisR ?_
  intro p e s m args below meth c s₁ Bd hml0 hP hK
  obtain ⟨rfl, hZ, hh⟩ := hP
  have hx := Bd.exec
  have hby := Bd.bytes
  have hml : c.maxLocals = 4 := hml0
  have hown : s.vm.findClass "java/lang/Long" = some m.cls := findClass_of_methodNamed Bd.named
  have hnm := (name_of_methodNamed Bd.named Bd.method).1
  have X0 : Stand p l e ({ frames := 0, cells := 0, slots := 0, locals := 0 } : Room) s m #[(.long q1), (.long q2)] below meth c s₁ [] 0 0 := Stand.of_body Bd
  have e0 : s₁.heap = h0 := by rw [← hh, Bd.state]; rfl
  have N0 := Fr.nil n0
  have pre0 : ∀ t, Steps p.tables e below (s₁.setTop (mkF m 0 #[.val (.long q1), .second, .val (.long q2), .second] [])) t → Steps p.tables e below (s₁.setTop (entryFrame m #[(.long q1), (.long q2)] 4)) t := fun t k => castTop (ef_6 m q1 q2) k
  obtain ⟨b1, hb1⟩ : ∃ z : Int32, z = (if (lcmpW q1 q2) < (0 : Int32) then (-1 : Int32) else (if (lcmpW q1 q2) = (0 : Int32) then (0 : Int32) else (1 : Int32))) := ⟨_, rfl⟩
  have st1 : ∀ t, Steps p.tables e below (s₁.setTop (mkF m 21 #[.val (.long q1), .second, .val (.long q2), .second] [(.int b1)])) t → Steps p.tables e below (s₁.setTop (mkF m 0 #[.val (.long q1), .second, .val (.long q2), .second] [])) t := by
    intro t k
    by_cases hcs1 : (lcmpW q1 q2) < (0 : Int32)
    · skip
      rw [if_pos hcs1] at hb1
      rw [hb1] at k
      show Steps p.tables e below (s₁.setTop (mkF m 0 #[.val (.long q1), .second, .val (.long q2), .second] [])) _
      refine XS.lloadN X0.here hx rfl (hb hby d6_0) rfl ?_
      show Steps p.tables e below (s₁.setTop (mkF m 1 #[.val (.long q1), .second, .val (.long q2), .second] [(.long q1)])) _
      refine XS.lloadN X0.here hx rfl (hb hby d6_1) rfl ?_
      show Steps p.tables e below (s₁.setTop (mkF m 2 #[.val (.long q1), .second, .val (.long q2), .second] [(.long q2), (.long q1)])) _
      refine XS.lcmp X0.here hx rfl (hb hby d6_2) rfl ?_
      show Steps p.tables e below (s₁.setTop (mkF m 3 #[.val (.long q1), .second, .val (.long q2), .second] [(.int (lcmpW q1 q2))])) _
      refine XS.ifNo X0.here hx rfl (hb hby d6_3) rfl ((if0 _ _).trans (tlt hcs1).2.1) ?_
      show Steps p.tables e below (s₁.setTop (mkF m 6 #[.val (.long q1), .second, .val (.long q2), .second] [])) _
      refine XS.iconst X0.here hx rfl (hb hby d6_6) ?_
      show Steps p.tables e below (s₁.setTop (mkF m 7 #[.val (.long q1), .second, .val (.long q2), .second] [(.int (-1 : Int32))])) _
      refine XS.goto X0.here hx rfl (pc0 := 7) (pc' := 21) rfl (hb hby d6_7) (by decide) (by decide) ?_
      exact k
    · skip
      by_cases hcs2 : (lcmpW q1 q2) = (0 : Int32)
      · skip
        rw [if_neg hcs1, if_pos hcs2] at hb1
        rw [hb1] at k
        show Steps p.tables e below (s₁.setTop (mkF m 0 #[.val (.long q1), .second, .val (.long q2), .second] [])) _
        refine XS.lloadN X0.here hx rfl (hb hby d6_0) rfl ?_
        show Steps p.tables e below (s₁.setTop (mkF m 1 #[.val (.long q1), .second, .val (.long q2), .second] [(.long q1)])) _
        refine XS.lloadN X0.here hx rfl (hb hby d6_1) rfl ?_
        show Steps p.tables e below (s₁.setTop (mkF m 2 #[.val (.long q1), .second, .val (.long q2), .second] [(.long q2), (.long q1)])) _
        refine XS.lcmp X0.here hx rfl (hb hby d6_2) rfl ?_
        show Steps p.tables e below (s₁.setTop (mkF m 3 #[.val (.long q1), .second, .val (.long q2), .second] [(.int (lcmpW q1 q2))])) _
        refine XS.ifYes X0.here hx rfl (pc0 := 3) (pc' := 10) rfl (hb hby d6_3) rfl ((if0 _ _).trans (flt hcs1).2.1) (by decide) (by decide) ?_
        show Steps p.tables e below (s₁.setTop (mkF m 10 #[.val (.long q1), .second, .val (.long q2), .second] [])) _
        refine XS.lloadN X0.here hx rfl (hb hby d6_10) rfl ?_
        show Steps p.tables e below (s₁.setTop (mkF m 11 #[.val (.long q1), .second, .val (.long q2), .second] [(.long q1)])) _
        refine XS.lloadN X0.here hx rfl (hb hby d6_11) rfl ?_
        show Steps p.tables e below (s₁.setTop (mkF m 12 #[.val (.long q1), .second, .val (.long q2), .second] [(.long q2), (.long q1)])) _
        refine XS.lcmp X0.here hx rfl (hb hby d6_12) rfl ?_
        show Steps p.tables e below (s₁.setTop (mkF m 13 #[.val (.long q1), .second, .val (.long q2), .second] [(.int (lcmpW q1 q2))])) _
        refine XS.ifNo X0.here hx rfl (hb hby d6_13) rfl ((if0 _ _).trans (teq hcs2).2) ?_
        show Steps p.tables e below (s₁.setTop (mkF m 16 #[.val (.long q1), .second, .val (.long q2), .second] [])) _
        refine XS.iconst X0.here hx rfl (hb hby d6_16) ?_
        show Steps p.tables e below (s₁.setTop (mkF m 17 #[.val (.long q1), .second, .val (.long q2), .second] [(.int (0 : Int32))])) _
        refine XS.goto X0.here hx rfl (pc0 := 17) (pc' := 21) rfl (hb hby d6_17) (by decide) (by decide) ?_
        exact k
      · skip
        rw [if_neg hcs1, if_neg hcs2] at hb1
        rw [hb1] at k
        show Steps p.tables e below (s₁.setTop (mkF m 0 #[.val (.long q1), .second, .val (.long q2), .second] [])) _
        refine XS.lloadN X0.here hx rfl (hb hby d6_0) rfl ?_
        show Steps p.tables e below (s₁.setTop (mkF m 1 #[.val (.long q1), .second, .val (.long q2), .second] [(.long q1)])) _
        refine XS.lloadN X0.here hx rfl (hb hby d6_1) rfl ?_
        show Steps p.tables e below (s₁.setTop (mkF m 2 #[.val (.long q1), .second, .val (.long q2), .second] [(.long q2), (.long q1)])) _
        refine XS.lcmp X0.here hx rfl (hb hby d6_2) rfl ?_
        show Steps p.tables e below (s₁.setTop (mkF m 3 #[.val (.long q1), .second, .val (.long q2), .second] [(.int (lcmpW q1 q2))])) _
        refine XS.ifYes X0.here hx rfl (pc0 := 3) (pc' := 10) rfl (hb hby d6_3) rfl ((if0 _ _).trans (flt hcs1).2.1) (by decide) (by decide) ?_
        show Steps p.tables e below (s₁.setTop (mkF m 10 #[.val (.long q1), .second, .val (.long q2), .second] [])) _
        refine XS.lloadN X0.here hx rfl (hb hby d6_10) rfl ?_
        show Steps p.tables e below (s₁.setTop (mkF m 11 #[.val (.long q1), .second, .val (.long q2), .second] [(.long q1)])) _
        refine XS.lloadN X0.here hx rfl (hb hby d6_11) rfl ?_
        show Steps p.tables e below (s₁.setTop (mkF m 12 #[.val (.long q1), .second, .val (.long q2), .second] [(.long q2), (.long q1)])) _
        refine XS.lcmp X0.here hx rfl (hb hby d6_12) rfl ?_
        show Steps p.tables e below (s₁.setTop (mkF m 13 #[.val (.long q1), .second, .val (.long q2), .second] [(.int (lcmpW q1 q2))])) _
        refine XS.ifYes X0.here hx rfl (pc0 := 13) (pc' := 20) rfl (hb hby d6_13) rfl ((if0 _ _).trans (feq hcs2).2) (by decide) (by decide) ?_
        show Steps p.tables e below (s₁.setTop (mkF m 20 #[.val (.long q1), .second, .val (.long q2), .second] [])) _
        refine XS.iconst X0.here hx rfl (hb hby d6_20) ?_
        exact k
  obtain ⟨fs, hr, hrun, hended, hW, hsame⟩ := X0.leave (v := some (.int b1)) (fun h => by rw [Bd.returns] at h; cases h)
  refine ⟨_, _, pre0 _ ?_, hrun, hended, _, _, rfl, ?_, ⟨_, rfl⟩, hW, hsame.mono (by decide) (by decide)⟩
  · show Steps p.tables e below (s₁.setTop (mkF m 0 #[.val (.long q1), .second, .val (.long q2), .second] [])) _
    refine st1 _ ?_
    show Steps p.tables e below (s₁.setTop (mkF m 21 #[.val (.long q1), .second, .val (.long q2), .second] [(.int b1)])) _
    exact retI X0 hx Bd.returns (hb hby d6_21) hr
  · show Q6 Z q1 q2 r h0 n0 _ s₁.heap _
    rw [e0]
    exact ⟨by rw [hb1, hr0]; rfl, N0, rfl⟩

theorem d7_0 : decode jdk_35_method_43_code 0 = .ok (.lload_n 0, 1) := by decide +kernel
theorem d7_1 : decode jdk_35_method_43_code 1 = .ok (.ldc2_w 168, 3) := by decide +kernel
theorem d7_4 : decode jdk_35_method_43_code 4 = .ok (.ladd, 1) := by decide +kernel
theorem d7_5 : decode jdk_35_method_43_code 5 = .ok (.lload_n 2, 1) := by decide +kernel
theorem d7_6 : decode jdk_35_method_43_code 6 = .ok (.ldc2_w 168, 3) := by decide +kernel
theorem d7_9 : decode jdk_35_method_43_code 9 = .ok (.ladd, 1) := by decide +kernel
theorem pd_1 : parseMethodDescriptor "(JJ)I" = some ⟨[.long, .long], some .int⟩ := by decide +kernel
theorem d7_10 : decode jdk_35_method_43_code 10 = .ok (.invokestatic 302, 3) := by decide +kernel
theorem d7_13 : decode jdk_35_method_43_code 13 = .ok (.ireturn, 1) := by decide +kernel
theorem ef_7 (m : MethodId) (x0 : Int64) (x1 : Int64) : entryFrame m #[(.long x0), (.long x1)] 4 = mkF m 0 #[.val (.long x0), .second, .val (.long x1), .second] [] := by first | (simp [entryFrame, mkF, argsToLocals, Value.category]; done) | rfl
def Q7 (Z : State) (q1 : Int64) (q2 : Int64) (r : Int32) (h0 : Heap) (n0 : Nat) (v : Option Value) (h : Heap) (L : List Loc) : Prop := v = some (.int r) ∧ Fr n0 L ∧ h = h0
set_option maxRecDepth 65536 in
set_option maxHeartbeats 40000000 in
theorem rm7 (l : Launch) (Z : State) (a0 : Array Value) (hw : ∀ d ∈ tables_1, d.before a0 Z = true) (ws : List Jvm.Cond) (q1 : Int64) (q2 : Int64) (r : Int32) (h0 : Heap) (n0 : Nat) (Z0 : n0 ≤ h0.size) (hr0 : r = own_cmp (q1 + (-9223372036854775808 : Int64)) (q2 + (-9223372036854775808 : Int64))) :
    MetFree l (⟨"java/lang/Long", "compareUnsigned", "(JJ)I"⟩ : MethodName) (head1 (Jvm.Cond.code (⟨"java/lang/Long", "compareUnsigned", "(JJ)I"⟩ : MethodName) jdk_35_method_43_code 4 (some .int) :: ws) ({ frames := 1, cells := 0, slots := 0, locals := 15 } : Room)) (fun a U => a = #[(.long q1), (.long q2)] ∧ Z.Warmed39 U.vm ∧ U.heap = h0) (fun _ _ _ _ _ => True) (fun _ U o U' => ∃ v L, o = .returned v ∧ Q7 Z q1 q2 r h0 n0 v U'.heap L ∧ FrameEnd U o U' L ({ frames := 1, cells := 0, slots := 0, locals := 15 } : Room).cells ({ frames := 1, cells := 0, slots := 0, locals := 15 } : Room).slots) := by
  refine MetFree.of_bodySF (plainFor_of_name pn_3) hisR ?_
  intro p e s m args below meth c s₁ Bd hml0 hP hK
  obtain ⟨rfl, hZ, hh⟩ := hP
  have hx := Bd.exec
  have hby := Bd.bytes
  have hml : c.maxLocals = 4 := hml0
  have hown : s.vm.findClass "java/lang/Long" = some m.cls := findClass_of_methodNamed Bd.named
  have hnm := (name_of_methodNamed Bd.named Bd.method).1
  have X0 : Stand p l e ({ frames := 1, cells := 0, slots := 0, locals := 15 } : Room) s m #[(.long q1), (.long q2)] below meth c s₁ [] 0 0 := Stand.of_body Bd
  have e0 : s₁.heap = h0 := by rw [← hh, Bd.state]; rfl
  have N0 := Fr.nil n0
  have pre0 : ∀ t, Steps p.tables e below (s₁.setTop (mkF m 0 #[.val (.long q1), .second, .val (.long q2), .second] [])) t → Steps p.tables e below (s₁.setTop (entryFrame m #[(.long q1), (.long q2)] 4)) t := fun t k => castTop (ef_7 m q1 q2) k
  obtain ⟨_, _, ⟨T1, L1, k1, n1⟩, -, X1, ⟨Lc1, hQ1, l1, y1, z1⟩, st1⟩ := Jvm.LawKit.callS X0 hx (y := (⟨"java/lang/Long", "compare", "(JJ)I"⟩ : MethodName)) hown (mvT hZ (hw _ (List.mem_of_getElem? (i := 37) rfl))) (mvT hZ (hw _ (List.mem_of_getElem? (i := 30) rfl))) (mvT hZ (hw _ (List.mem_of_getElem? (i := 31) rfl))) (mvT hZ (hw _ (List.mem_of_getElem? (i := 32) rfl))) (by decide) (backOf (W := 0) (rm6 l Z a0 hw [] (q1 + (-9223372036854775808 : Int64)) (q2 + (-9223372036854775808 : Int64)) r h0 n0 Z0 hr0) hZ (hw _ (List.mem_of_getElem? (i := 32) rfl)) (hw _ (List.mem_of_getElem? (i := 31) rfl)) (by decide) (by decide)) (g := (mkF m 10 #[.val (.long q1), .second, .val (.long q2), .second] [(.long (q2 + (-9223372036854775808 : Int64))), (.long (q1 + (-9223372036854775808 : Int64)))])) rfl (by rw [hml]; rfl) (argsL := [(.long (q1 + (-9223372036854775808 : Int64))), (.long (q2 + (-9223372036854775808 : Int64)))]) (rest := []) (lenOf pd_1 rfl) rfl (by show 2 * 0 + _ ≤ _; exact Nat.le_of_eq rfl) (hb hby d7_10) (fun _ _ => ⟨rfl, e0, (by decide : 0 + 0 ≤ _), (by decide : 0 + 0 ≤ _)⟩)
  dsimp only [Pt.U, Pt.locs, Pt.cells, Pt.slots] at X1 l1 y1 z1 st1 hQ1
  subst l1 y1 z1
  obtain ⟨rfl, N1q, e1⟩ := hQ1
  have N1 := Fr.app N0 N1q
  obtain ⟨fs, hr, hrun, hended, hW, hsame⟩ := X1.leave (v := some (.int r)) (fun h => by rw [Bd.returns] at h; cases h)
  refine ⟨_, _, pre0 _ ?_, hrun, hended, _, _, rfl, ?_, ⟨_, rfl⟩, hW, hsame.mono (by decide) (by decide)⟩
  · show Steps p.tables e below (s₁.setTop (mkF m 0 #[.val (.long q1), .second, .val (.long q2), .second] [])) _
    refine XS.lloadN X0.here hx rfl (hb hby d7_0) rfl ?_
    show Steps p.tables e below (s₁.setTop (mkF m 1 #[.val (.long q1), .second, .val (.long q2), .second] [(.long q1)])) _
    refine X0.ldc2Long hx hown (mvT hZ (hw _ (List.mem_of_getElem? (i := 36) rfl))) (g := (mkF m 1 #[.val (.long q1), .second, .val (.long q2), .second] [(.long q1)])) rfl (hb hby d7_1) _ ?_
    show Steps p.tables e below (s₁.setTop (mkF m 4 #[.val (.long q1), .second, .val (.long q2), .second] [(.long (-9223372036854775808 : Int64)), (.long q1)])) _
    refine XS.ladd X0.here hx rfl (hb hby d7_4) rfl ?_
    show Steps p.tables e below (s₁.setTop (mkF m 5 #[.val (.long q1), .second, .val (.long q2), .second] [(.long (q1 + (-9223372036854775808 : Int64)))])) _
    refine XS.lloadN X0.here hx rfl (hb hby d7_5) rfl ?_
    show Steps p.tables e below (s₁.setTop (mkF m 6 #[.val (.long q1), .second, .val (.long q2), .second] [(.long q2), (.long (q1 + (-9223372036854775808 : Int64)))])) _
    refine X0.ldc2Long hx hown (mvT hZ (hw _ (List.mem_of_getElem? (i := 36) rfl))) (g := (mkF m 6 #[.val (.long q1), .second, .val (.long q2), .second] [(.long q2), (.long (q1 + (-9223372036854775808 : Int64)))])) rfl (hb hby d7_6) _ ?_
    show Steps p.tables e below (s₁.setTop (mkF m 9 #[.val (.long q1), .second, .val (.long q2), .second] [(.long (-9223372036854775808 : Int64)), (.long q2), (.long (q1 + (-9223372036854775808 : Int64)))])) _
    refine XS.ladd X0.here hx rfl (hb hby d7_9) rfl ?_
    show Steps p.tables e below (s₁.setTop (mkF m 10 #[.val (.long q1), .second, .val (.long q2), .second] [(.long (q2 + (-9223372036854775808 : Int64))), (.long (q1 + (-9223372036854775808 : Int64)))])) _
    refine st1 _ ?_
    show Steps p.tables e below (T1.setTop (mkF m 13 #[.val (.long q1), .second, .val (.long q2), .second] [(.int r)])) _
    exact retI X1 hx Bd.returns (hb hby d7_13) hr
  · show Q7 Z q1 q2 r h0 n0 _ T1.heap _
    rw [e1]
    exact ⟨rfl, N1, rfl⟩

theorem d5_0 : decode prog_13_method_10_code 0 = .ok (.aload_n 0, 1) := by decide +kernel
theorem d5_1 : decode prog_13_method_10_code 1 = .ok (.getfield 16, 3) := by decide +kernel
theorem d5_4 : decode prog_13_method_10_code 4 = .ok (.aload_n 1, 1) := by decide +kernel
theorem d5_5 : decode prog_13_method_10_code 5 = .ok (.getfield 16, 3) := by decide +kernel
theorem d5_8 : decode prog_13_method_10_code 8 = .ok (.invokestatic 98, 3) := by decide +kernel
theorem d5_11 : decode prog_13_method_10_code 11 = .ok (.istore_n 2, 1) := by decide +kernel
theorem d5_12 : decode prog_13_method_10_code 12 = .ok (.iload_n 2, 1) := by decide +kernel
theorem d5_13 : decode prog_13_method_10_code 13 = .ok (.ifCond .eq 7, 3) := by decide +kernel
theorem d5_20 : decode prog_13_method_10_code 20 = .ok (.aload_n 0, 1) := by decide +kernel
theorem d5_21 : decode prog_13_method_10_code 21 = .ok (.getfield 22, 3) := by decide +kernel
theorem d5_24 : decode prog_13_method_10_code 24 = .ok (.aload_n 1, 1) := by decide +kernel
theorem d5_25 : decode prog_13_method_10_code 25 = .ok (.getfield 22, 3) := by decide +kernel
theorem d5_28 : decode prog_13_method_10_code 28 = .ok (.invokestatic 80, 3) := by decide +kernel
theorem d5_31 : decode prog_13_method_10_code 31 = .ok (.ireturn, 1) := by decide +kernel
theorem ef_5e (m : MethodId) (x0 : Addr) (x1 : Addr) : entryFrame m #[(.ref x0), (.ref x1)] 3 = mkF m 0 #[.val (.ref x0), .val (.ref x1), .unset] [] := by first | (simp [entryFrame, mkF, argsToLocals, Value.category]; done) | rfl
def Q5e (Z : State) (a1 : Addr) (a2 : Addr) (w1 : Int64) (f1 : Int64) (w2 : Int64) (f2 : Int64) (r : Int32) (h0 : Heap) (n0 : Nat) (v : Option Value) (h : Heap) (L : List Loc) : Prop := v = some (.int r) ∧ Fr n0 L ∧ h = h0
set_option maxRecDepth 65536 in
set_option maxHeartbeats 40000000 in
theorem rm5e (l : Launch) (Z : State) (a0 : Array Value) (hw : ∀ d ∈ tables_1, d.before a0 Z = true) (ws : List Jvm.Cond) (a1 : Addr) (a2 : Addr) (w1 : Int64) (f1 : Int64) (w2 : Int64) (f2 : Int64) (r : Int32) (h0 : Heap) (n0 : Nat) (Z0 : n0 ≤ h0.size) (F_w1 : Fld Z h0 a1 "com/example/rate_gate/rategate/algorithm/Seconds" "whole" "J" (.long w1)) (F_f1 : Fld Z h0 a1 "com/example/rate_gate/rategate/algorithm/Seconds" "fraction" "J" (.long f1)) (F_w2 : Fld Z h0 a2 "com/example/rate_gate/rategate/algorithm/Seconds" "whole" "J" (.long w2)) (F_f2 : Fld Z h0 a2 "com/example/rate_gate/rategate/algorithm/Seconds" "fraction" "J" (.long f2)) (hc : own_cmp w1 w2 = (0 : Int32)) (hr0 : r = own_cmp (f1 + (-9223372036854775808 : Int64)) (f2 + (-9223372036854775808 : Int64))) :
    MetFree l (⟨"com/example/rate_gate/rategate/algorithm/Seconds", "compareTo", "(Lcom/example/rate_gate/rategate/algorithm/Seconds;)I"⟩ : MethodName) (head1 (Jvm.Cond.code (⟨"com/example/rate_gate/rategate/algorithm/Seconds", "compareTo", "(Lcom/example/rate_gate/rategate/algorithm/Seconds;)I"⟩ : MethodName) prog_13_method_10_code 3 (some .int) :: ws) ({ frames := 2, cells := 0, slots := 0, locals := 30 } : Room)) (fun a U => a = #[(.ref a1), (.ref a2)] ∧ Z.Warmed39 U.vm ∧ U.heap = h0) (fun _ _ _ _ _ => True) (fun _ U o U' => ∃ v L, o = .returned v ∧ Q5e Z a1 a2 w1 f1 w2 f2 r h0 n0 v U'.heap L ∧ FrameEnd U o U' L ({ frames := 2, cells := 0, slots := 0, locals := 30 } : Room).cells ({ frames := 2, cells := 0, slots := 0, locals := 30 } : Room).slots) := by
  refine MetFree.of_bodySF (plainFor_of_name pn_2) hisR ?_
  intro p e s m args below meth c s₁ Bd hml0 hP hK
  obtain ⟨rfl, hZ, hh⟩ := hP
  have hx := Bd.exec
  have hby := Bd.bytes
  have hml : c.maxLocals = 3 := hml0
  have hown : s.vm.findClass "com/example/rate_gate/rategate/algorithm/Seconds" = some m.cls := findClass_of_methodNamed Bd.named
  have hnm := (name_of_methodNamed Bd.named Bd.method).1
  have X0 : Stand p l e ({ frames := 2, cells := 0, slots := 0, locals := 30 } : Room) s m #[(.ref a1), (.ref a2)] below meth c s₁ [] 0 0 := Stand.of_body Bd
  have e0 : s₁.heap = h0 := by rw [← hh, Bd.state]; rfl
  have N0 := Fr.nil n0
  have pre0 : ∀ t, Steps p.tables e below (s₁.setTop (mkF m 0 #[.val (.ref a1), .val (.ref a2), .unset] [])) t → Steps p.tables e below (s₁.setTop (entryFrame m #[(.ref a1), (.ref a2)] 3)) t := fun t k => castTop (ef_5e m a1 a2) k
  obtain ⟨T1, X1, e1, st1⟩ := getF X0 hx hZ hown (host := "") (Or.inl (hw _ (List.mem_of_getElem? (i := 15) rfl))) Via.refl e0 F_w1 (g := (mkF m 1 #[.val (.ref a1), .val (.ref a2), .unset] [(.ref a1)])) rfl rfl (hb hby d5_1)
  obtain ⟨T2, X2, e2, st2⟩ := getF X1 hx hZ hown (host := "") (Or.inl (hw _ (List.mem_of_getElem? (i := 15) rfl))) Via.refl e1 F_w2 (g := (mkF m 5 #[.val (.ref a1), .val (.ref a2), .unset] [(.ref a2), (.long w1)])) rfl rfl (hb hby d5_5)
  obtain ⟨_, _, ⟨T3, L3, k3, n3⟩, -, X3, ⟨Lc3, hQ3, l3, y3, z3⟩, st3⟩ := Jvm.LawKit.callS X2 hx (y := (⟨"java/lang/Long", "compare", "(JJ)I"⟩ : MethodName)) hown (mvT hZ (hw _ (List.mem_of_getElem? (i := 29) rfl))) (mvT hZ (hw _ (List.mem_of_getElem? (i := 30) rfl))) (mvT hZ (hw _ (List.mem_of_getElem? (i := 31) rfl))) (mvT hZ (hw _ (List.mem_of_getElem? (i := 32) rfl))) (by decide) (backOf (W := 0) (rm6 l Z a0 hw [] w1 w2 (0 : Int32) h0 n0 Z0 hc.symm) hZ (hw _ (List.mem_of_getElem? (i := 32) rfl)) (hw _ (List.mem_of_getElem? (i := 31) rfl)) (by decide) (by decide)) (g := (mkF m 8 #[.val (.ref a1), .val (.ref a2), .unset] [(.long w2), (.long w1)])) rfl (by rw [hml]; rfl) (argsL := [(.long w1), (.long w2)]) (rest := []) (lenOf pd_1 rfl) rfl (by show 2 * 0 + _ ≤ _; exact Nat.le_of_eq rfl) (hb hby d5_8) (fun _ _ => ⟨rfl, e2, (by decide : 0 + 0 ≤ _), (by decide : 0 + 0 ≤ _)⟩)
  dsimp only [Pt.U, Pt.locs, Pt.cells, Pt.slots] at X3 l3 y3 z3 st3 hQ3
  subst l3 y3 z3
  obtain ⟨rfl, N3q, e3⟩ := hQ3
  have N3 := Fr.app N0 N3q
  obtain ⟨T4, X4, e4, st4⟩ := getF X3 hx hZ hown (host := "") (Or.inl (hw _ (List.mem_of_getElem? (i := 17) rfl))) Via.refl e3 F_f1 (g := (mkF m 21 #[.val (.ref a1), .val (.ref a2), .val (.int (0 : Int32))] [(.ref a1)])) rfl rfl (hb hby d5_21)
  obtain ⟨T5, X5, e5, st5⟩ := getF X4 hx hZ hown (host := "") (Or.inl (hw _ (List.mem_of_getElem? (i := 17) rfl))) Via.refl e4 F_f2 (g := (mkF m 25 #[.val (.ref a1), .val (.ref a2), .val (.int (0 : Int32))] [(.ref a2), (.long f1)])) rfl rfl (hb hby d5_25)
  obtain ⟨_, _, ⟨T6, L6, k6, n6⟩, -, X6, ⟨Lc6, hQ6, l6, y6, z6⟩, st6⟩ := Jvm.LawKit.callS X5 hx (y := (⟨"java/lang/Long", "compareUnsigned", "(JJ)I"⟩ : MethodName)) hown (mvT hZ (hw _ (List.mem_of_getElem? (i := 33) rfl))) (mvT hZ (hw _ (List.mem_of_getElem? (i := 34) rfl))) (mvT hZ (hw _ (List.mem_of_getElem? (i := 31) rfl))) (mvT hZ (hw _ (List.mem_of_getElem? (i := 35) rfl))) (by decide) (backOf (W := 0) (rm7 l Z a0 hw [] f1 f2 r h0 n0 Z0 hr0) hZ (hw _ (List.mem_of_getElem? (i := 35) rfl)) (hw _ (List.mem_of_getElem? (i := 31) rfl)) (by decide) (by decide)) (g := (mkF m 28 #[.val (.ref a1), .val (.ref a2), .val (.int (0 : Int32))] [(.long f2), (.long f1)])) rfl (by rw [hml]; rfl) (argsL := [(.long f1), (.long f2)]) (rest := []) (lenOf pd_1 rfl) rfl (by show 2 * 0 + _ ≤ _; exact Nat.le_of_eq rfl) (hb hby d5_28) (fun _ _ => ⟨rfl, e5, (by decide : 0 + 0 ≤ _), (by decide : 0 + 0 ≤ _)⟩)
  dsimp only [Pt.U, Pt.locs, Pt.cells, Pt.slots] at X6 l6 y6 z6 st6 hQ6
  subst l6 y6 z6
  obtain ⟨rfl, N6q, e6⟩ := hQ6
  have N6 := Fr.app N3 N6q
  obtain ⟨fs, hr, hrun, hended, hW, hsame⟩ := X6.leave (v := some (.int r)) (fun h => by rw [Bd.returns] at h; cases h)
  refine ⟨_, _, pre0 _ ?_, hrun, hended, _, _, rfl, ?_, ⟨_, rfl⟩, hW, hsame.mono (by decide) (by decide)⟩
  · show Steps p.tables e below (s₁.setTop (mkF m 0 #[.val (.ref a1), .val (.ref a2), .unset] [])) _
    refine XS.aloadN X0.here hx rfl (hb hby d5_0) rfl rfl ?_
    show Steps p.tables e below (s₁.setTop (mkF m 1 #[.val (.ref a1), .val (.ref a2), .unset] [(.ref a1)])) _
    refine st1 _ ?_
    show Steps p.tables e below (T1.setTop (mkF m 4 #[.val (.ref a1), .val (.ref a2), .unset] [(.long w1)])) _
    refine XS.aloadN X1.here hx rfl (hb hby d5_4) rfl rfl ?_
    show Steps p.tables e below (T1.setTop (mkF m 5 #[.val (.ref a1), .val (.ref a2), .unset] [(.ref a2), (.long w1)])) _
    refine st2 _ ?_
    show Steps p.tables e below (T2.setTop (mkF m 8 #[.val (.ref a1), .val (.ref a2), .unset] [(.long w2), (.long w1)])) _
    refine st3 _ ?_
    show Steps p.tables e below (T3.setTop (mkF m 11 #[.val (.ref a1), .val (.ref a2), .unset] [(.int (0 : Int32))])) _
    refine XS.istoreN X3.here hx rfl (hb hby d5_11) rfl (l' := #[.val (.ref a1), .val (.ref a2), .val (.int (0 : Int32))]) rfl ?_
    show Steps p.tables e below (T3.setTop (mkF m 12 #[.val (.ref a1), .val (.ref a2), .val (.int (0 : Int32))] [])) _
    refine XS.iloadN X3.here hx rfl (hb hby d5_12) rfl ?_
    show Steps p.tables e below (T3.setTop (mkF m 13 #[.val (.ref a1), .val (.ref a2), .val (.int (0 : Int32))] [(.int (0 : Int32))])) _
    refine XS.ifYes X3.here hx rfl (pc0 := 13) (pc' := 20) rfl (hb hby d5_13) rfl ((if0 _ _).trans (teq (rfl : (0 : Int32) = (0 : Int32))).1) (by decide) (by decide) ?_
    show Steps p.tables e below (T3.setTop (mkF m 20 #[.val (.ref a1), .val (.ref a2), .val (.int (0 : Int32))] [])) _
    refine XS.aloadN X3.here hx rfl (hb hby d5_20) rfl rfl ?_
    show Steps p.tables e below (T3.setTop (mkF m 21 #[.val (.ref a1), .val (.ref a2), .val (.int (0 : Int32))] [(.ref a1)])) _
    refine st4 _ ?_
    show Steps p.tables e below (T4.setTop (mkF m 24 #[.val (.ref a1), .val (.ref a2), .val (.int (0 : Int32))] [(.long f1)])) _
    refine XS.aloadN X4.here hx rfl (hb hby d5_24) rfl rfl ?_
    show Steps p.tables e below (T4.setTop (mkF m 25 #[.val (.ref a1), .val (.ref a2), .val (.int (0 : Int32))] [(.ref a2), (.long f1)])) _
    refine st5 _ ?_
    show Steps p.tables e below (T5.setTop (mkF m 28 #[.val (.ref a1), .val (.ref a2), .val (.int (0 : Int32))] [(.long f2), (.long f1)])) _
    refine st6 _ ?_
    show Steps p.tables e below (T6.setTop (mkF m 31 #[.val (.ref a1), .val (.ref a2), .val (.int (0 : Int32))] [(.int r)])) _
    exact retI X6 hx Bd.returns (hb hby d5_31) hr
  · show Q5e Z a1 a2 w1 f1 w2 f2 r h0 n0 _ T6.heap _
    rw [e6]
    exact ⟨rfl, N6, rfl⟩

theorem d5_16 : decode prog_13_method_10_code 16 = .ok (.iload_n 2, 1) := by decide +kernel
theorem d5_17 : decode prog_13_method_10_code 17 = .ok (.goto 14, 3) := by decide +kernel
theorem ef_5n (m : MethodId) (x0 : Addr) (x1 : Addr) : entryFrame m #[(.ref x0), (.ref x1)] 3 = mkF m 0 #[.val (.ref x0), .val (.ref x1), .unset] [] := by first | (simp [entryFrame, mkF, argsToLocals, Value.category]; done) | rfl
def Q5n (Z : State) (a1 : Addr) (a2 : Addr) (w1 : Int64) (f1 : Int64) (w2 : Int64) (f2 : Int64) (r : Int32) (h0 : Heap) (n0 : Nat) (v : Option Value) (h : Heap) (L : List Loc) : Prop := v = some (.int r) ∧ Fr n0 L ∧ h = h0
set_option maxRecDepth 65536 in
set_option maxHeartbeats 40000000 in
theorem rm5n (l : Launch) (Z : State) (a0 : Array Value) (hw : ∀ d ∈ tables_1, d.before a0 Z = true) (ws : List Jvm.Cond) (a1 : Addr) (a2 : Addr) (w1 : Int64) (f1 : Int64) (w2 : Int64) (f2 : Int64) (r : Int32) (h0 : Heap) (n0 : Nat) (Z0 : n0 ≤ h0.size) (F_w1 : Fld Z h0 a1 "com/example/rate_gate/rategate/algorithm/Seconds" "whole" "J" (.long w1)) (F_f1 : Fld Z h0 a1 "com/example/rate_gate/rategate/algorithm/Seconds" "fraction" "J" (.long f1)) (F_w2 : Fld Z h0 a2 "com/example/rate_gate/rategate/algorithm/Seconds" "whole" "J" (.long w2)) (F_f2 : Fld Z h0 a2 "com/example/rate_gate/rategate/algorithm/Seconds" "fraction" "J" (.long f2)) (hc : ¬ own_cmp w1 w2 = (0 : Int32)) (hr0 : r = own_cmp w1 w2) :
    MetFree l (⟨"com/example/rate_gate/rategate/algorithm/Seconds", "compareTo", "(Lcom/example/rate_gate/rategate/algorithm/Seconds;)I"⟩ : MethodName) (head1 (Jvm.Cond.code (⟨"com/example/rate_gate/rategate/algorithm/Seconds", "compareTo", "(Lcom/example/rate_gate/rategate/algorithm/Seconds;)I"⟩ : MethodName) prog_13_method_10_code 3 (some .int) :: ws) ({ frames := 1, cells := 0, slots := 0, locals := 15 } : Room)) (fun a U => a = #[(.ref a1), (.ref a2)] ∧ Z.Warmed39 U.vm ∧ U.heap = h0) (fun _ _ _ _ _ => True) (fun _ U o U' => ∃ v L, o = .returned v ∧ Q5n Z a1 a2 w1 f1 w2 f2 r h0 n0 v U'.heap L ∧ FrameEnd U o U' L ({ frames := 1, cells := 0, slots := 0, locals := 15 } : Room).cells ({ frames := 1, cells := 0, slots := 0, locals := 15 } : Room).slots) := by
  refine MetFree.of_bodySF (plainFor_of_name pn_2) hisR ?_
  intro p e s m args below meth c s₁ Bd hml0 hP hK
  obtain ⟨rfl, hZ, hh⟩ := hP
  have hx := Bd.exec
  have hby := Bd.bytes
  have hml : c.maxLocals = 3 := hml0
  have hown : s.vm.findClass "com/example/rate_gate/rategate/algorithm/Seconds" = some m.cls := findClass_of_methodNamed Bd.named
  have hnm := (name_of_methodNamed Bd.named Bd.method).1
  have X0 : Stand p l e ({ frames := 1, cells := 0, slots := 0, locals := 15 } : Room) s m #[(.ref a1), (.ref a2)] below meth c s₁ [] 0 0 := Stand.of_body Bd
  have e0 : s₁.heap = h0 := by rw [← hh, Bd.state]; rfl
  have N0 := Fr.nil n0
  have pre0 : ∀ t, Steps p.tables e below (s₁.setTop (mkF m 0 #[.val (.ref a1), .val (.ref a2), .unset] [])) t → Steps p.tables e below (s₁.setTop (entryFrame m #[(.ref a1), (.ref a2)] 3)) t := fun t k => castTop (ef_5n m a1 a2) k
  obtain ⟨T1, X1, e1, st1⟩ := getF X0 hx hZ hown (host := "") (Or.inl (hw _ (List.mem_of_getElem? (i := 15) rfl))) Via.refl e0 F_w1 (g := (mkF m 1 #[.val (.ref a1), .val (.ref a2), .unset] [(.ref a1)])) rfl rfl (hb hby d5_1)
  obtain ⟨T2, X2, e2, st2⟩ := getF X1 hx hZ hown (host := "") (Or.inl (hw _ (List.mem_of_getElem? (i := 15) rfl))) Via.refl e1 F_w2 (g := (mkF m 5 #[.val (.ref a1), .val (.ref a2), .unset] [(.ref a2), (.long w1)])) rfl rfl (hb hby d5_5)
  obtain ⟨_, _, ⟨T3, L3, k3, n3⟩, -, X3, ⟨Lc3, hQ3, l3, y3, z3⟩, st3⟩ := Jvm.LawKit.callS X2 hx (y := (⟨"java/lang/Long", "compare", "(JJ)I"⟩ : MethodName)) hown (mvT hZ (hw _ (List.mem_of_getElem? (i := 29) rfl))) (mvT hZ (hw _ (List.mem_of_getElem? (i := 30) rfl))) (mvT hZ (hw _ (List.mem_of_getElem? (i := 31) rfl))) (mvT hZ (hw _ (List.mem_of_getElem? (i := 32) rfl))) (by decide) (backOf (W := 0) (rm6 l Z a0 hw [] w1 w2 r h0 n0 Z0 hr0) hZ (hw _ (List.mem_of_getElem? (i := 32) rfl)) (hw _ (List.mem_of_getElem? (i := 31) rfl)) (by decide) (by decide)) (g := (mkF m 8 #[.val (.ref a1), .val (.ref a2), .unset] [(.long w2), (.long w1)])) rfl (by rw [hml]; rfl) (argsL := [(.long w1), (.long w2)]) (rest := []) (lenOf pd_1 rfl) rfl (by show 2 * 0 + _ ≤ _; exact Nat.le_of_eq rfl) (hb hby d5_8) (fun _ _ => ⟨rfl, e2, (by decide : 0 + 0 ≤ _), (by decide : 0 + 0 ≤ _)⟩)
  dsimp only [Pt.U, Pt.locs, Pt.cells, Pt.slots] at X3 l3 y3 z3 st3 hQ3
  subst l3 y3 z3
  obtain ⟨rfl, N3q, e3⟩ := hQ3
  have N3 := Fr.app N0 N3q
  obtain ⟨fs, hr, hrun, hended, hW, hsame⟩ := X3.leave (v := some (.int r)) (fun h => by rw [Bd.returns] at h; cases h)
  refine ⟨_, _, pre0 _ ?_, hrun, hended, _, _, rfl, ?_, ⟨_, rfl⟩, hW, hsame.mono (by decide) (by decide)⟩
  · show Steps p.tables e below (s₁.setTop (mkF m 0 #[.val (.ref a1), .val (.ref a2), .unset] [])) _
    refine XS.aloadN X0.here hx rfl (hb hby d5_0) rfl rfl ?_
    show Steps p.tables e below (s₁.setTop (mkF m 1 #[.val (.ref a1), .val (.ref a2), .unset] [(.ref a1)])) _
    refine st1 _ ?_
    show Steps p.tables e below (T1.setTop (mkF m 4 #[.val (.ref a1), .val (.ref a2), .unset] [(.long w1)])) _
    refine XS.aloadN X1.here hx rfl (hb hby d5_4) rfl rfl ?_
    show Steps p.tables e below (T1.setTop (mkF m 5 #[.val (.ref a1), .val (.ref a2), .unset] [(.ref a2), (.long w1)])) _
    refine st2 _ ?_
    show Steps p.tables e below (T2.setTop (mkF m 8 #[.val (.ref a1), .val (.ref a2), .unset] [(.long w2), (.long w1)])) _
    refine st3 _ ?_
    show Steps p.tables e below (T3.setTop (mkF m 11 #[.val (.ref a1), .val (.ref a2), .unset] [(.int r)])) _
    refine XS.istoreN X3.here hx rfl (hb hby d5_11) rfl (l' := #[.val (.ref a1), .val (.ref a2), .val (.int r)]) rfl ?_
    show Steps p.tables e below (T3.setTop (mkF m 12 #[.val (.ref a1), .val (.ref a2), .val (.int r)] [])) _
    refine XS.iloadN X3.here hx rfl (hb hby d5_12) rfl ?_
    show Steps p.tables e below (T3.setTop (mkF m 13 #[.val (.ref a1), .val (.ref a2), .val (.int r)] [(.int r)])) _
    refine XS.ifNo X3.here hx rfl (hb hby d5_13) rfl ((if0 _ _).trans (feq (fun q => hc (hr0.symm.trans q) : ¬ (r = (0 : Int32)))).1) ?_
    show Steps p.tables e below (T3.setTop (mkF m 16 #[.val (.ref a1), .val (.ref a2), .val (.int r)] [])) _
    refine XS.iloadN X3.here hx rfl (hb hby d5_16) rfl ?_
    show Steps p.tables e below (T3.setTop (mkF m 17 #[.val (.ref a1), .val (.ref a2), .val (.int r)] [(.int r)])) _
    refine XS.goto X3.here hx rfl (pc0 := 17) (pc' := 31) rfl (hb hby d5_17) (by decide) (by decide) ?_
    show Steps p.tables e below (T3.setTop (mkF m 31 #[.val (.ref a1), .val (.ref a2), .val (.int r)] [(.int r)])) _
    exact retI X3 hx Bd.returns (hb hby d5_31) hr
  · show Q5n Z a1 a2 w1 f1 w2 f2 r h0 n0 _ T3.heap _
    rw [e3]
    exact ⟨rfl, N3, rfl⟩

theorem pn_4 : plainName "com/example/rate_gate/rategate/algorithm/SecondsRoundedUpPinLaw" = true := by first | (simp [plainName, overriddenIn]; done) | decide +kernel
theorem ef_0A (m : MethodId) (x0 : Int64) (x1 : Int64) (x2 : Int32) : entryFrame m #[(.long x0), (.long x1), (.int x2)] maxLocals = mkF m 0 #[.val (.long x0), .second, .val (.long x1), .second, .val (.int x2), .unset, .unset, .unset, .unset, .unset, .unset, .unset, .unset, .unset] [] := by first | (simp [entryFrame, mkF, argsToLocals, Value.category, maxLocals]; done) | rfl
def Q0A (Z : State) (q1 : Int64) (q2 : Int64) (p3 : Int32)  (h0 : Heap) (n0 : Nat) (v : Option Value) (h : Heap) (L : List Loc) : Prop := v = some (.int (1 : Int32)) ∧ Fr n0 L
set_option maxRecDepth 65536 in
set_option maxHeartbeats 40000000 in
theorem rm0A (l : Launch) (Z : State) (a0 : Array Value) (hw : ∀ d ∈ tables_1, d.before a0 Z = true) (ws : List Jvm.Cond) (q1 : Int64) (q2 : Int64) (p3 : Int32)  (h0 : Heap) (n0 : Nat) (Z0 : n0 ≤ h0.size) (hw1 : (q1 &&& (9223372036854775807 : Int64)) = (9223372036854775807 : Int64)) (hf : ¬ (if (p3 &&& (1 : Int32)) = (0 : Int32) then (0 : Int64) else q2) = (0 : Int64)) :
    MetFree l x (head1 (Jvm.Cond.code x code maxLocals ret :: ws) room_1) (fun a U => a = #[(.long q1), (.long q2), (.int p3)] ∧ Z.Warmed39 U.vm ∧ U.heap = h0) (fun _ _ _ _ _ => True) (fun _ U o U' => ∃ v L, o = .returned v ∧ Q0A Z q1 q2 p3  h0 n0 v U'.heap L ∧ FrameEnd U o U' L room_1.cells room_1.slots) := by
  refine MetFree.of_bodySF (plainFor_of_name pn_4) hisR ?_
  intro p e s m args below meth c s₁ Bd hml0 hP hK
  obtain ⟨rfl, hZ, hh⟩ := hP
  have hx := Bd.exec
  have hby := Bd.bytes
  have hml : c.maxLocals = 14 := hml0
  have hown : s.vm.findClass "com/example/rate_gate/rategate/algorithm/SecondsRoundedUpPinLaw" = some m.cls := findClass_of_methodNamed Bd.named
  have hnm := (name_of_methodNamed Bd.named Bd.method).1
  have X0 : Stand p l e room_1 s m #[(.long q1), (.long q2), (.int p3)] below meth c s₁ [] 0 0 := Stand.of_body Bd
  have e0 : s₁.heap = h0 := by rw [← hh, Bd.state]; rfl
  have N0 := Fr.nil n0
  have pre0 : ∀ t, Steps p.tables e below (s₁.setTop (mkF m 0 #[.val (.long q1), .second, .val (.long q2), .second, .val (.int p3), .unset, .unset, .unset, .unset, .unset, .unset, .unset, .unset, .unset] [])) t → Steps p.tables e below (s₁.setTop (entryFrame m #[(.long q1), (.long q2), (.int p3)] maxLocals)) t := fun t k => castTop (ef_0A m q1 q2 p3) k
  obtain ⟨W, hW⟩ : ∃ z : Int64, z = (q1 &&& (9223372036854775807 : Int64)) := ⟨_, rfl⟩
  have stW : ∀ t, Steps p.tables e below (s₁.setTop (mkF m 7 #[.val (.long q1), .second, .val (.long q2), .second, .val (.int p3), .val (.long W), .second, .unset, .unset, .unset, .unset, .unset, .unset, .unset] [])) t → Steps p.tables e below (s₁.setTop (mkF m 7 #[.val (.long q1), .second, .val (.long q2), .second, .val (.int p3), .val (.long (q1 &&& (9223372036854775807 : Int64))), .second, .unset, .unset, .unset, .unset, .unset, .unset, .unset] [])) t := by subst hW; exact fun _ k => k
  obtain ⟨F, hF⟩ : ∃ z : Int64, z = (if (p3 &&& (1 : Int32)) = (0 : Int32) then (0 : Int64) else q2) := ⟨_, rfl⟩
  have st1 : ∀ t, Steps p.tables e below (s₁.setTop (mkF m 19 #[.val (.long q1), .second, .val (.long q2), .second, .val (.int p3), .val (.long W), .second, .unset, .unset, .unset, .unset, .unset, .unset, .unset] [(.long F)])) t → Steps p.tables e below (s₁.setTop (mkF m 7 #[.val (.long q1), .second, .val (.long q2), .second, .val (.int p3), .val (.long W), .second, .unset, .unset, .unset, .unset, .unset, .unset, .unset] [])) t := by
    intro t k
    by_cases hcs1 : (p3 &&& (1 : Int32)) = (0 : Int32)
    · skip
      rw [if_pos hcs1] at hF
      rw [hF] at k
      show Steps p.tables e below (s₁.setTop (mkF m 7 #[.val (.long q1), .second, .val (.long q2), .second, .val (.int p3), .val (.long W), .second, .unset, .unset, .unset, .unset, .unset, .unset, .unset] [])) _
      refine XS.iload X0.here hx rfl (hb hby at_7) rfl ?_
      show Steps p.tables e below (s₁.setTop (mkF m 9 #[.val (.long q1), .second, .val (.long q2), .second, .val (.int p3), .val (.long W), .second, .unset, .unset, .unset, .unset, .unset, .unset, .unset] [(.int p3)])) _
      refine XS.iconst X0.here hx rfl (hb hby at_9) ?_
      show Steps p.tables e below (s₁.setTop (mkF m 10 #[.val (.long q1), .second, .val (.long q2), .second, .val (.int p3), .val (.long W), .second, .unset, .unset, .unset, .unset, .unset, .unset, .unset] [(.int (1 : Int32)), (.int p3)])) _
      refine XS.iand X0.here hx rfl (hb hby at_10) rfl ?_
      show Steps p.tables e below (s₁.setTop (mkF m 11 #[.val (.long q1), .second, .val (.long q2), .second, .val (.int p3), .val (.long W), .second, .unset, .unset, .unset, .unset, .unset, .unset, .unset] [(.int (p3 &&& (1 : Int32)))])) _
      refine XS.ifNo X0.here hx rfl (hb hby at_11) rfl ((if0 _ _).trans (teq hcs1).2) ?_
      show Steps p.tables e below (s₁.setTop (mkF m 14 #[.val (.long q1), .second, .val (.long q2), .second, .val (.int p3), .val (.long W), .second, .unset, .unset, .unset, .unset, .unset, .unset, .unset] [])) _
      refine XS.lconst X0.here hx rfl (hb hby at_14) ?_
      show Steps p.tables e below (s₁.setTop (mkF m 15 #[.val (.long q1), .second, .val (.long q2), .second, .val (.int p3), .val (.long W), .second, .unset, .unset, .unset, .unset, .unset, .unset, .unset] [(.long (0 : Int64))])) _
      refine XS.goto X0.here hx rfl (pc0 := 15) (pc' := 19) rfl (hb hby at_15) (by decide) (by decide) ?_
      exact k
    · skip
      rw [if_neg hcs1] at hF
      rw [hF] at k
      show Steps p.tables e below (s₁.setTop (mkF m 7 #[.val (.long q1), .second, .val (.long q2), .second, .val (.int p3), .val (.long W), .second, .unset, .unset, .unset, .unset, .unset, .unset, .unset] [])) _
      refine XS.iload X0.here hx rfl (hb hby at_7) rfl ?_
      show Steps p.tables e below (s₁.setTop (mkF m 9 #[.val (.long q1), .second, .val (.long q2), .second, .val (.int p3), .val (.long W), .second, .unset, .unset, .unset, .unset, .unset, .unset, .unset] [(.int p3)])) _
      refine XS.iconst X0.here hx rfl (hb hby at_9) ?_
      show Steps p.tables e below (s₁.setTop (mkF m 10 #[.val (.long q1), .second, .val (.long q2), .second, .val (.int p3), .val (.long W), .second, .unset, .unset, .unset, .unset, .unset, .unset, .unset] [(.int (1 : Int32)), (.int p3)])) _
      refine XS.iand X0.here hx rfl (hb hby at_10) rfl ?_
      show Steps p.tables e below (s₁.setTop (mkF m 11 #[.val (.long q1), .second, .val (.long q2), .second, .val (.int p3), .val (.long W), .second, .unset, .unset, .unset, .unset, .unset, .unset, .unset] [(.int (p3 &&& (1 : Int32)))])) _
      refine XS.ifYes X0.here hx rfl (pc0 := 11) (pc' := 18) rfl (hb hby at_11) rfl ((if0 _ _).trans (feq hcs1).2) (by decide) (by decide) ?_
      show Steps p.tables e below (s₁.setTop (mkF m 18 #[.val (.long q1), .second, .val (.long q2), .second, .val (.int p3), .val (.long W), .second, .unset, .unset, .unset, .unset, .unset, .unset, .unset] [])) _
      refine XS.lloadN X0.here hx rfl (hb hby at_18) rfl ?_
      exact k
  rw [← hW] at hw1
  rw [← hF] at hf
  obtain ⟨fs, hr, hrun, hended, hW, hsame⟩ := X0.leave (v := some (.int (1 : Int32))) (fun h => by rw [Bd.returns] at h; cases h)
  refine ⟨_, _, pre0 _ ?_, hrun, hended, _, _, rfl, ?_, ⟨_, rfl⟩, hW, hsame.mono (by decide) (by decide)⟩
  · show Steps p.tables e below (s₁.setTop (mkF m 0 #[.val (.long q1), .second, .val (.long q2), .second, .val (.int p3), .unset, .unset, .unset, .unset, .unset, .unset, .unset, .unset, .unset] [])) _
    refine XS.lloadN X0.here hx rfl (hb hby at_0) rfl ?_
    show Steps p.tables e below (s₁.setTop (mkF m 1 #[.val (.long q1), .second, .val (.long q2), .second, .val (.int p3), .unset, .unset, .unset, .unset, .unset, .unset, .unset, .unset, .unset] [(.long q1)])) _
    refine X0.ldc2Long hx hown (mvT hZ (hw _ (List.mem_of_getElem? (i := 0) rfl))) (g := (mkF m 1 #[.val (.long q1), .second, .val (.long q2), .second, .val (.int p3), .unset, .unset, .unset, .unset, .unset, .unset, .unset, .unset, .unset] [(.long q1)])) rfl (hb hby at_1) _ ?_
    show Steps p.tables e below (s₁.setTop (mkF m 4 #[.val (.long q1), .second, .val (.long q2), .second, .val (.int p3), .unset, .unset, .unset, .unset, .unset, .unset, .unset, .unset, .unset] [(.long (9223372036854775807 : Int64)), (.long q1)])) _
    refine XS.land X0.here hx rfl (hb hby at_4) rfl ?_
    show Steps p.tables e below (s₁.setTop (mkF m 5 #[.val (.long q1), .second, .val (.long q2), .second, .val (.int p3), .unset, .unset, .unset, .unset, .unset, .unset, .unset, .unset, .unset] [(.long (q1 &&& (9223372036854775807 : Int64)))])) _
    refine XS.lstore X0.here hx rfl (hb hby at_5) rfl (l' := #[.val (.long q1), .second, .val (.long q2), .second, .val (.int p3), .val (.long (q1 &&& (9223372036854775807 : Int64))), .second, .unset, .unset, .unset, .unset, .unset, .unset, .unset]) rfl ?_
    show Steps p.tables e below (s₁.setTop (mkF m 7 #[.val (.long q1), .second, .val (.long q2), .second, .val (.int p3), .val (.long (q1 &&& (9223372036854775807 : Int64))), .second, .unset, .unset, .unset, .unset, .unset, .unset, .unset] [])) _
    refine stW _ ?_
    show Steps p.tables e below (s₁.setTop (mkF m 7 #[.val (.long q1), .second, .val (.long q2), .second, .val (.int p3), .val (.long W), .second, .unset, .unset, .unset, .unset, .unset, .unset, .unset] [])) _
    refine st1 _ ?_
    show Steps p.tables e below (s₁.setTop (mkF m 19 #[.val (.long q1), .second, .val (.long q2), .second, .val (.int p3), .val (.long W), .second, .unset, .unset, .unset, .unset, .unset, .unset, .unset] [(.long F)])) _
    refine XS.lstore X0.here hx rfl (hb hby at_19) rfl (l' := #[.val (.long q1), .second, .val (.long q2), .second, .val (.int p3), .val (.long W), .second, .val (.long F), .second, .unset, .unset, .unset, .unset, .unset]) rfl ?_
    show Steps p.tables e below (s₁.setTop (mkF m 21 #[.val (.long q1), .second, .val (.long q2), .second, .val (.int p3), .val (.long W), .second, .val (.long F), .second, .unset, .unset, .unset, .unset, .unset] [])) _
    refine XS.lload X0.here hx rfl (hb hby at_21) rfl ?_
    show Steps p.tables e below (s₁.setTop (mkF m 23 #[.val (.long q1), .second, .val (.long q2), .second, .val (.int p3), .val (.long W), .second, .val (.long F), .second, .unset, .unset, .unset, .unset, .unset] [(.long W)])) _
    refine X0.ldc2Long hx hown (mvT hZ (hw _ (List.mem_of_getElem? (i := 0) rfl))) (g := (mkF m 23 #[.val (.long q1), .second, .val (.long q2), .second, .val (.int p3), .val (.long W), .second, .val (.long F), .second, .unset, .unset, .unset, .unset, .unset] [(.long W)])) rfl (hb hby at_23) _ ?_
    show Steps p.tables e below (s₁.setTop (mkF m 26 #[.val (.long q1), .second, .val (.long q2), .second, .val (.int p3), .val (.long W), .second, .val (.long F), .second, .unset, .unset, .unset, .unset, .unset] [(.long (9223372036854775807 : Int64)), (.long W)])) _
    refine XS.lcmp X0.here hx rfl (hb hby at_26) rfl ?_
    show Steps p.tables e below (s₁.setTop (mkF m 27 #[.val (.long q1), .second, .val (.long q2), .second, .val (.int p3), .val (.long W), .second, .val (.long F), .second, .unset, .unset, .unset, .unset, .unset] [(.int (lcmpW W (9223372036854775807 : Int64)))])) _
    refine XS.ifNo X0.here hx rfl (hb hby at_27) rfl ((if0 _ _).trans (teq ((lw_eq _ _).mpr hw1 : (lcmpW W (9223372036854775807 : Int64)) = (0 : Int32))).2) ?_
    show Steps p.tables e below (s₁.setTop (mkF m 30 #[.val (.long q1), .second, .val (.long q2), .second, .val (.int p3), .val (.long W), .second, .val (.long F), .second, .unset, .unset, .unset, .unset, .unset] [])) _
    refine XS.lload X0.here hx rfl (hb hby at_30) rfl ?_
    show Steps p.tables e below (s₁.setTop (mkF m 32 #[.val (.long q1), .second, .val (.long q2), .second, .val (.int p3), .val (.long W), .second, .val (.long F), .second, .unset, .unset, .unset, .unset, .unset] [(.long F)])) _
    refine XS.lconst X0.here hx rfl (hb hby at_32) ?_
    show Steps p.tables e below (s₁.setTop (mkF m 33 #[.val (.long q1), .second, .val (.long q2), .second, .val (.int p3), .val (.long W), .second, .val (.long F), .second, .unset, .unset, .unset, .unset, .unset] [(.long (0 : Int64)), (.long F)])) _
    refine XS.lcmp X0.here hx rfl (hb hby at_33) rfl ?_
    show Steps p.tables e below (s₁.setTop (mkF m 34 #[.val (.long q1), .second, .val (.long q2), .second, .val (.int p3), .val (.long W), .second, .val (.long F), .second, .unset, .unset, .unset, .unset, .unset] [(.int (lcmpW F (0 : Int64)))])) _
    refine XS.ifNo X0.here hx rfl (hb hby at_34) rfl ((if0 _ _).trans (feq (fun q => hf ((lw_eq _ _).mp q) : ¬ ((lcmpW F (0 : Int64)) = (0 : Int32)))).1) ?_
    show Steps p.tables e below (s₁.setTop (mkF m 37 #[.val (.long q1), .second, .val (.long q2), .second, .val (.int p3), .val (.long W), .second, .val (.long F), .second, .unset, .unset, .unset, .unset, .unset] [])) _
    refine XS.iconst X0.here hx rfl (hb hby at_37) ?_
    show Steps p.tables e below (s₁.setTop (mkF m 38 #[.val (.long q1), .second, .val (.long q2), .second, .val (.int p3), .val (.long W), .second, .val (.long F), .second, .unset, .unset, .unset, .unset, .unset] [(.int (1 : Int32))])) _
    exact retN X0 hx (t := .boolean) Bd.returns (by simp) (hb hby at_38) hr
  · show Q0A Z q1 q2 p3  h0 n0 _ s₁.heap _
    rw [e0]
    exact ⟨rfl, N0⟩

theorem pd_2 : parseMethodDescriptor "(JJ)V" = some ⟨[.long, .long], none⟩ := by decide +kernel
theorem pd_3 : parseMethodDescriptor "()J" = some ⟨[], some .long⟩ := by decide +kernel
theorem pd_4 : parseMethodDescriptor "(Lcom/example/rate_gate/rategate/algorithm/Seconds;)I" = some ⟨[(.object "com/example/rate_gate/rategate/algorithm/Seconds")], some .int⟩ := by decide +kernel
theorem ef_0B (m : MethodId) (x0 : Int64) (x1 : Int64) (x2 : Int32) : entryFrame m #[(.long x0), (.long x1), (.int x2)] maxLocals = mkF m 0 #[.val (.long x0), .second, .val (.long x1), .second, .val (.int x2), .unset, .unset, .unset, .unset, .unset, .unset, .unset, .unset, .unset] [] := by first | (simp [entryFrame, mkF, argsToLocals, Value.category, maxLocals]; done) | rfl
def Q0B (Z : State) (q1 : Int64) (q2 : Int64) (p3 : Int32)  (h0 : Heap) (n0 : Nat) (v : Option Value) (h : Heap) (L : List Loc) : Prop := v = some (.int (1 : Int32)) ∧ Fr n0 L
set_option maxRecDepth 65536 in
set_option maxHeartbeats 40000000 in
theorem rm0B (l : Launch) (Z : State) (a0 : Array Value) (hw : ∀ d ∈ tables_1, d.before a0 Z = true) (ws : List Jvm.Cond) (q1 : Int64) (q2 : Int64) (p3 : Int32)  (h0 : Heap) (n0 : Nat) (Z0 : n0 ≤ h0.size) (hf : (if (p3 &&& (1 : Int32)) = (0 : Int32) then (0 : Int64) else q2) = (0 : Int64)) (hz : (q1 &&& (9223372036854775807 : Int64)) = (0 : Int64)) :
    MetFree l x (head1 (Jvm.Cond.code x code maxLocals ret :: ws) room_1) (fun a U => a = #[(.long q1), (.long q2), (.int p3)] ∧ Z.Warmed39 U.vm ∧ U.heap = h0) (fun _ _ _ _ _ => True) (fun _ U o U' => ∃ v L, o = .returned v ∧ Q0B Z q1 q2 p3  h0 n0 v U'.heap L ∧ FrameEnd U o U' L room_1.cells room_1.slots) := by
  refine MetFree.of_bodySF (plainFor_of_name pn_4) hisR ?_
  intro p e s m args below meth c s₁ Bd hml0 hP hK
  obtain ⟨rfl, hZ, hh⟩ := hP
  have hx := Bd.exec
  have hby := Bd.bytes
  have hml : c.maxLocals = 14 := hml0
  have hown : s.vm.findClass "com/example/rate_gate/rategate/algorithm/SecondsRoundedUpPinLaw" = some m.cls := findClass_of_methodNamed Bd.named
  have hnm := (name_of_methodNamed Bd.named Bd.method).1
  have X0 : Stand p l e room_1 s m #[(.long q1), (.long q2), (.int p3)] below meth c s₁ [] 0 0 := Stand.of_body Bd
  have e0 : s₁.heap = h0 := by rw [← hh, Bd.state]; rfl
  have N0 := Fr.nil n0
  have pre0 : ∀ t, Steps p.tables e below (s₁.setTop (mkF m 0 #[.val (.long q1), .second, .val (.long q2), .second, .val (.int p3), .unset, .unset, .unset, .unset, .unset, .unset, .unset, .unset, .unset] [])) t → Steps p.tables e below (s₁.setTop (entryFrame m #[(.long q1), (.long q2), (.int p3)] maxLocals)) t := fun t k => castTop (ef_0B m q1 q2 p3) k
  obtain ⟨W, hW⟩ : ∃ z : Int64, z = (q1 &&& (9223372036854775807 : Int64)) := ⟨_, rfl⟩
  have stW : ∀ t, Steps p.tables e below (s₁.setTop (mkF m 7 #[.val (.long q1), .second, .val (.long q2), .second, .val (.int p3), .val (.long W), .second, .unset, .unset, .unset, .unset, .unset, .unset, .unset] [])) t → Steps p.tables e below (s₁.setTop (mkF m 7 #[.val (.long q1), .second, .val (.long q2), .second, .val (.int p3), .val (.long (q1 &&& (9223372036854775807 : Int64))), .second, .unset, .unset, .unset, .unset, .unset, .unset, .unset] [])) t := by subst hW; exact fun _ k => k
  obtain ⟨F, hF⟩ : ∃ z : Int64, z = (if (p3 &&& (1 : Int32)) = (0 : Int32) then (0 : Int64) else q2) := ⟨_, rfl⟩
  have st1 : ∀ t, Steps p.tables e below (s₁.setTop (mkF m 19 #[.val (.long q1), .second, .val (.long q2), .second, .val (.int p3), .val (.long W), .second, .unset, .unset, .unset, .unset, .unset, .unset, .unset] [(.long F)])) t → Steps p.tables e below (s₁.setTop (mkF m 7 #[.val (.long q1), .second, .val (.long q2), .second, .val (.int p3), .val (.long W), .second, .unset, .unset, .unset, .unset, .unset, .unset, .unset] [])) t := by
    intro t k
    by_cases hcs1 : (p3 &&& (1 : Int32)) = (0 : Int32)
    · skip
      rw [if_pos hcs1] at hF
      rw [hF] at k
      show Steps p.tables e below (s₁.setTop (mkF m 7 #[.val (.long q1), .second, .val (.long q2), .second, .val (.int p3), .val (.long W), .second, .unset, .unset, .unset, .unset, .unset, .unset, .unset] [])) _
      refine XS.iload X0.here hx rfl (hb hby at_7) rfl ?_
      show Steps p.tables e below (s₁.setTop (mkF m 9 #[.val (.long q1), .second, .val (.long q2), .second, .val (.int p3), .val (.long W), .second, .unset, .unset, .unset, .unset, .unset, .unset, .unset] [(.int p3)])) _
      refine XS.iconst X0.here hx rfl (hb hby at_9) ?_
      show Steps p.tables e below (s₁.setTop (mkF m 10 #[.val (.long q1), .second, .val (.long q2), .second, .val (.int p3), .val (.long W), .second, .unset, .unset, .unset, .unset, .unset, .unset, .unset] [(.int (1 : Int32)), (.int p3)])) _
      refine XS.iand X0.here hx rfl (hb hby at_10) rfl ?_
      show Steps p.tables e below (s₁.setTop (mkF m 11 #[.val (.long q1), .second, .val (.long q2), .second, .val (.int p3), .val (.long W), .second, .unset, .unset, .unset, .unset, .unset, .unset, .unset] [(.int (p3 &&& (1 : Int32)))])) _
      refine XS.ifNo X0.here hx rfl (hb hby at_11) rfl ((if0 _ _).trans (teq hcs1).2) ?_
      show Steps p.tables e below (s₁.setTop (mkF m 14 #[.val (.long q1), .second, .val (.long q2), .second, .val (.int p3), .val (.long W), .second, .unset, .unset, .unset, .unset, .unset, .unset, .unset] [])) _
      refine XS.lconst X0.here hx rfl (hb hby at_14) ?_
      show Steps p.tables e below (s₁.setTop (mkF m 15 #[.val (.long q1), .second, .val (.long q2), .second, .val (.int p3), .val (.long W), .second, .unset, .unset, .unset, .unset, .unset, .unset, .unset] [(.long (0 : Int64))])) _
      refine XS.goto X0.here hx rfl (pc0 := 15) (pc' := 19) rfl (hb hby at_15) (by decide) (by decide) ?_
      exact k
    · skip
      rw [if_neg hcs1] at hF
      rw [hF] at k
      show Steps p.tables e below (s₁.setTop (mkF m 7 #[.val (.long q1), .second, .val (.long q2), .second, .val (.int p3), .val (.long W), .second, .unset, .unset, .unset, .unset, .unset, .unset, .unset] [])) _
      refine XS.iload X0.here hx rfl (hb hby at_7) rfl ?_
      show Steps p.tables e below (s₁.setTop (mkF m 9 #[.val (.long q1), .second, .val (.long q2), .second, .val (.int p3), .val (.long W), .second, .unset, .unset, .unset, .unset, .unset, .unset, .unset] [(.int p3)])) _
      refine XS.iconst X0.here hx rfl (hb hby at_9) ?_
      show Steps p.tables e below (s₁.setTop (mkF m 10 #[.val (.long q1), .second, .val (.long q2), .second, .val (.int p3), .val (.long W), .second, .unset, .unset, .unset, .unset, .unset, .unset, .unset] [(.int (1 : Int32)), (.int p3)])) _
      refine XS.iand X0.here hx rfl (hb hby at_10) rfl ?_
      show Steps p.tables e below (s₁.setTop (mkF m 11 #[.val (.long q1), .second, .val (.long q2), .second, .val (.int p3), .val (.long W), .second, .unset, .unset, .unset, .unset, .unset, .unset, .unset] [(.int (p3 &&& (1 : Int32)))])) _
      refine XS.ifYes X0.here hx rfl (pc0 := 11) (pc' := 18) rfl (hb hby at_11) rfl ((if0 _ _).trans (feq hcs1).2) (by decide) (by decide) ?_
      show Steps p.tables e below (s₁.setTop (mkF m 18 #[.val (.long q1), .second, .val (.long q2), .second, .val (.int p3), .val (.long W), .second, .unset, .unset, .unset, .unset, .unset, .unset, .unset] [])) _
      refine XS.lloadN X0.here hx rfl (hb hby at_18) rfl ?_
      exact k
  have hW0 : ¬ W < (0 : Int64) := own_w0 hW
  rw [← hW] at hz
  rw [← hF] at hf
  have st2 : ∀ t, Steps p.tables e below (s₁.setTop (mkF m 39 #[.val (.long q1), .second, .val (.long q2), .second, .val (.int p3), .val (.long W), .second, .val (.long F), .second, .unset, .unset, .unset, .unset, .unset] [])) t → Steps p.tables e below (s₁.setTop (mkF m 21 #[.val (.long q1), .second, .val (.long q2), .second, .val (.int p3), .val (.long W), .second, .val (.long F), .second, .unset, .unset, .unset, .unset, .unset] [])) t := by
    intro t k
    by_cases hcs1 : (lcmpW W (9223372036854775807 : Int64)) = (0 : Int32)
    · skip
      show Steps p.tables e below (s₁.setTop (mkF m 21 #[.val (.long q1), .second, .val (.long q2), .second, .val (.int p3), .val (.long W), .second, .val (.long F), .second, .unset, .unset, .unset, .unset, .unset] [])) _
      refine XS.lload X0.here hx rfl (hb hby at_21) rfl ?_
      show Steps p.tables e below (s₁.setTop (mkF m 23 #[.val (.long q1), .second, .val (.long q2), .second, .val (.int p3), .val (.long W), .second, .val (.long F), .second, .unset, .unset, .unset, .unset, .unset] [(.long W)])) _
      refine X0.ldc2Long hx hown (mvT hZ (hw _ (List.mem_of_getElem? (i := 0) rfl))) (g := (mkF m 23 #[.val (.long q1), .second, .val (.long q2), .second, .val (.int p3), .val (.long W), .second, .val (.long F), .second, .unset, .unset, .unset, .unset, .unset] [(.long W)])) rfl (hb hby at_23) _ ?_
      show Steps p.tables e below (s₁.setTop (mkF m 26 #[.val (.long q1), .second, .val (.long q2), .second, .val (.int p3), .val (.long W), .second, .val (.long F), .second, .unset, .unset, .unset, .unset, .unset] [(.long (9223372036854775807 : Int64)), (.long W)])) _
      refine XS.lcmp X0.here hx rfl (hb hby at_26) rfl ?_
      show Steps p.tables e below (s₁.setTop (mkF m 27 #[.val (.long q1), .second, .val (.long q2), .second, .val (.int p3), .val (.long W), .second, .val (.long F), .second, .unset, .unset, .unset, .unset, .unset] [(.int (lcmpW W (9223372036854775807 : Int64)))])) _
      refine XS.ifNo X0.here hx rfl (hb hby at_27) rfl ((if0 _ _).trans (teq hcs1).2) ?_
      show Steps p.tables e below (s₁.setTop (mkF m 30 #[.val (.long q1), .second, .val (.long q2), .second, .val (.int p3), .val (.long W), .second, .val (.long F), .second, .unset, .unset, .unset, .unset, .unset] [])) _
      refine XS.lload X0.here hx rfl (hb hby at_30) rfl ?_
      show Steps p.tables e below (s₁.setTop (mkF m 32 #[.val (.long q1), .second, .val (.long q2), .second, .val (.int p3), .val (.long W), .second, .val (.long F), .second, .unset, .unset, .unset, .unset, .unset] [(.long F)])) _
      refine XS.lconst X0.here hx rfl (hb hby at_32) ?_
      show Steps p.tables e below (s₁.setTop (mkF m 33 #[.val (.long q1), .second, .val (.long q2), .second, .val (.int p3), .val (.long W), .second, .val (.long F), .second, .unset, .unset, .unset, .unset, .unset] [(.long (0 : Int64)), (.long F)])) _
      refine XS.lcmp X0.here hx rfl (hb hby at_33) rfl ?_
      show Steps p.tables e below (s₁.setTop (mkF m 34 #[.val (.long q1), .second, .val (.long q2), .second, .val (.int p3), .val (.long W), .second, .val (.long F), .second, .unset, .unset, .unset, .unset, .unset] [(.int (lcmpW F (0 : Int64)))])) _
      refine XS.ifYes X0.here hx rfl (pc0 := 34) (pc' := 39) rfl (hb hby at_34) rfl ((if0 _ _).trans (teq ((lw_eq _ _).mpr hf)).1) (by decide) (by decide) ?_
      exact k
    · skip
      show Steps p.tables e below (s₁.setTop (mkF m 21 #[.val (.long q1), .second, .val (.long q2), .second, .val (.int p3), .val (.long W), .second, .val (.long F), .second, .unset, .unset, .unset, .unset, .unset] [])) _
      refine XS.lload X0.here hx rfl (hb hby at_21) rfl ?_
      show Steps p.tables e below (s₁.setTop (mkF m 23 #[.val (.long q1), .second, .val (.long q2), .second, .val (.int p3), .val (.long W), .second, .val (.long F), .second, .unset, .unset, .unset, .unset, .unset] [(.long W)])) _
      refine X0.ldc2Long hx hown (mvT hZ (hw _ (List.mem_of_getElem? (i := 0) rfl))) (g := (mkF m 23 #[.val (.long q1), .second, .val (.long q2), .second, .val (.int p3), .val (.long W), .second, .val (.long F), .second, .unset, .unset, .unset, .unset, .unset] [(.long W)])) rfl (hb hby at_23) _ ?_
      show Steps p.tables e below (s₁.setTop (mkF m 26 #[.val (.long q1), .second, .val (.long q2), .second, .val (.int p3), .val (.long W), .second, .val (.long F), .second, .unset, .unset, .unset, .unset, .unset] [(.long (9223372036854775807 : Int64)), (.long W)])) _
      refine XS.lcmp X0.here hx rfl (hb hby at_26) rfl ?_
      show Steps p.tables e below (s₁.setTop (mkF m 27 #[.val (.long q1), .second, .val (.long q2), .second, .val (.int p3), .val (.long W), .second, .val (.long F), .second, .unset, .unset, .unset, .unset, .unset] [(.int (lcmpW W (9223372036854775807 : Int64)))])) _
      refine XS.ifYes X0.here hx rfl (pc0 := 27) (pc' := 39) rfl (hb hby at_27) rfl ((if0 _ _).trans (feq hcs1).2) (by decide) (by decide) ?_
      exact k
  obtain ⟨T3, h3, X3, e3, E3, A3, D3, -, st3⟩ := newO X0 hx hZ hown (hw _ (List.mem_of_getElem? (i := 1) rfl)) (hw _ (List.mem_of_getElem? (i := 2) rfl)) (hw _ (List.mem_of_getElem? (i := 3) rfl)) e0 (g := (mkF m 39 #[.val (.long q1), .second, .val (.long q2), .second, .val (.int p3), .val (.long W), .second, .val (.long F), .second, .unset, .unset, .unset, .unset, .unset] [])) rfl (hb hby at_39) (by decide) (by decide)
  obtain ⟨b3, g3⟩ : ∃ z, z = h0.size := ⟨_, rfl⟩
  rw [← g3] at A3 D3 st3
  have g_b3 : n0 ≤ b3 := Nat.le_trans Z0 (Nat.le_of_eq g3.symm)
  have Z3 := (Nat.le_trans Z0 E3.1)
  have F_whole_b3 : Fld Z h3 b3 "com/example/rate_gate/rategate/algorithm/Seconds" "whole" "J" (.long (0 : Int64)) := D3 (Or.inr (hw _ (List.mem_of_getElem? (i := 16) rfl))) (ty := .long) (by decide)
  have F_fraction_b3 : Fld Z h3 b3 "com/example/rate_gate/rategate/algorithm/Seconds" "fraction" "J" (.long (0 : Int64)) := D3 (Or.inr (hw _ (List.mem_of_getElem? (i := 18) rfl))) (ty := .long) (by decide)
  obtain ⟨_, _, ⟨T4, L4, k4, n4⟩, -, X4, ⟨Lc4, hQ4, l4, y4, z4⟩, st4⟩ := X3.specialBack hx (y := (⟨"com/example/rate_gate/rategate/algorithm/Seconds", "<init>", "(JJ)V"⟩ : MethodName)) rfl hown (mvT hZ (hw _ (List.mem_of_getElem? (i := 4) rfl))) (mvT hZ (hw _ (List.mem_of_getElem? (i := 5) rfl))) (mvT hZ (hw _ (List.mem_of_getElem? (i := 6) rfl))) (by decide) (backOf (W := 1) (rm1 l Z a0 hw [] b3 W F (.long (0 : Int64)) (.long (0 : Int64)) h3 n0 Z3 g_b3 A3 F_whole_b3 F_fraction_b3 hW0) hZ (hw _ (List.mem_of_getElem? (i := 6) rfl)) (hw _ (List.mem_of_getElem? (i := 3) rfl)) (by decide) (by decide)) (g := (mkF m 47 #[.val (.long q1), .second, .val (.long q2), .second, .val (.int p3), .val (.long W), .second, .val (.long F), .second, .unset, .unset, .unset, .unset, .unset] [(.long F), (.long W), (.ref b3), (.ref b3)])) rfl (by rw [hml]; rfl) (Steps.refl _) (a := b3) (argsL := [(.long W), (.long F)]) (rest := [(.ref b3)]) (lenOf pd_2 rfl) rfl (by show 2 * 0 + _ ≤ _; exact Nat.le_of_eq rfl) (hb hby at_47) (fun _ _ => ⟨rfl, e3, (by decide : 1 + 0 ≤ _), (by decide : 2 + 0 ≤ _)⟩)
  dsimp only [Pt.U, Pt.locs, Pt.cells, Pt.slots] at X4 l4 y4 z4 st4 hQ4
  subst l4 y4 z4
  obtain ⟨rfl, N4q, K4, E4, Fa4, Fb4⟩ := hQ4
  have N4 := Fr.app N0 N4q
  have A3_h4 := (A3.keep K4)
  have Z4 := (Nat.le_trans Z3 K4.1)
  obtain ⟨cq5, kq5, q5a, q5b, q5c⟩ := isOf hZ rfl E4
  obtain ⟨_, _, ⟨T5, L5, k5, n5⟩, -, X5, ⟨Lc5, hQ5, l5, y5, z5⟩, st5⟩ := X4.virtualBack hx (y := (⟨"com/example/rate_gate/rategate/algorithm/Seconds", "roundedUp", "()J"⟩ : MethodName)) (z := (⟨"com/example/rate_gate/rategate/algorithm/Seconds", "roundedUp", "()J"⟩ : MethodName)) hown (mvT hZ (hw _ (List.mem_of_getElem? (i := 19) rfl))) (mvT hZ (hw _ (List.mem_of_getElem? (i := 20) rfl))) (notFace_of_selects (args := #[]) (mvT hZ (hw _ (List.mem_of_getElem? (i := 22) rfl)))) (mvT hZ (hw _ (List.mem_of_getElem? (i := 22) rfl))) (mvT hZ (hw _ (List.mem_of_getElem? (i := 21) rfl))) (by decide) (backOf (W := 0) (rm4z l Z a0 hw [] b3 W F T4.heap n0 Z4 Fa4 Fb4 hf) hZ (hw _ (List.mem_of_getElem? (i := 23) rfl)) (hw _ (List.mem_of_getElem? (i := 3) rfl)) (by decide) (by decide)) q5a q5c (g := (mkF m 54 #[.val (.long q1), .second, .val (.long q2), .second, .val (.int p3), .val (.long W), .second, .val (.long F), .second, .val (.ref b3), .unset, .unset, .unset, .unset] [(.ref b3)])) rfl (by rw [hml]; rfl) (Steps.refl _) (argsL := []) (rest := []) (lenOf pd_3 rfl) rfl (by show 2 * 0 + _ ≤ _; exact Nat.le_of_eq rfl) (hb hby at_54) (fun _ _ => ⟨rfl, rfl, (by decide : 1 + 0 ≤ _), (by decide : 2 + 0 ≤ _)⟩)
  dsimp only [Pt.U, Pt.locs, Pt.cells, Pt.slots] at X5 l5 y5 z5 st5 hQ5
  subst l5 y5 z5
  obtain ⟨rfl, N5q, e5⟩ := hQ5
  have N5 := Fr.app N4 N5q
  obtain ⟨T6, h6, X6, e6, E6, A6, D6, -, st6⟩ := newO X5 hx hZ hown (hw _ (List.mem_of_getElem? (i := 1) rfl)) (hw _ (List.mem_of_getElem? (i := 2) rfl)) (hw _ (List.mem_of_getElem? (i := 3) rfl)) e5 (g := (mkF m 68 #[.val (.long q1), .second, .val (.long q2), .second, .val (.int p3), .val (.long W), .second, .val (.long F), .second, .val (.ref b3), .val (.long W), .second, .unset, .unset] [])) rfl (hb hby at_68) (by decide) (by decide)
  obtain ⟨b6, g6⟩ : ∃ z, z = T4.heap.size := ⟨_, rfl⟩
  rw [← g6] at A6 D6 st6
  have g_b6 : n0 ≤ b6 := Nat.le_trans Z4 (Nat.le_of_eq g6.symm)
  have ne_b3_b6 : b3 ≠ b6 := Nat.ne_of_lt (Nat.lt_of_lt_of_le E4.lt (Nat.le_of_eq g6.symm))
  have E4_h6 := (E4.ext E6)
  have Fa4_h6 := (Fa4.ext E6)
  have Fb4_h6 := (Fb4.ext E6)
  have Z6 := (Nat.le_trans Z4 E6.1)
  have F_whole_b6 : Fld Z h6 b6 "com/example/rate_gate/rategate/algorithm/Seconds" "whole" "J" (.long (0 : Int64)) := D6 (Or.inr (hw _ (List.mem_of_getElem? (i := 16) rfl))) (ty := .long) (by decide)
  have F_fraction_b6 : Fld Z h6 b6 "com/example/rate_gate/rategate/algorithm/Seconds" "fraction" "J" (.long (0 : Int64)) := D6 (Or.inr (hw _ (List.mem_of_getElem? (i := 18) rfl))) (ty := .long) (by decide)
  obtain ⟨_, _, ⟨T7, L7, k7, n7⟩, -, X7, ⟨Lc7, hQ7, l7, y7, z7⟩, st7⟩ := X6.specialBack hx (y := (⟨"com/example/rate_gate/rategate/algorithm/Seconds", "<init>", "(JJ)V"⟩ : MethodName)) rfl hown (mvT hZ (hw _ (List.mem_of_getElem? (i := 4) rfl))) (mvT hZ (hw _ (List.mem_of_getElem? (i := 5) rfl))) (mvT hZ (hw _ (List.mem_of_getElem? (i := 6) rfl))) (by decide) (backOf (W := 1) (rm1 l Z a0 hw [] b6 W (0 : Int64) (.long (0 : Int64)) (.long (0 : Int64)) h6 n0 Z6 g_b6 A6 F_whole_b6 F_fraction_b6 hW0) hZ (hw _ (List.mem_of_getElem? (i := 6) rfl)) (hw _ (List.mem_of_getElem? (i := 3) rfl)) (by decide) (by decide)) (g := (mkF m 75 #[.val (.long q1), .second, .val (.long q2), .second, .val (.int p3), .val (.long W), .second, .val (.long F), .second, .val (.ref b3), .val (.long W), .second, .unset, .unset] [(.long (0 : Int64)), (.long W), (.ref b6), (.ref b6)])) rfl (by rw [hml]; rfl) (Steps.refl _) (a := b6) (argsL := [(.long W), (.long (0 : Int64))]) (rest := [(.ref b6)]) (lenOf pd_2 rfl) rfl (by show 2 * 0 + _ ≤ _; exact Nat.le_of_eq rfl) (hb hby at_75) (fun _ _ => ⟨rfl, e6, (by decide : 2 + 0 ≤ _), (by decide : 4 + 0 ≤ _)⟩)
  dsimp only [Pt.U, Pt.locs, Pt.cells, Pt.slots] at X7 l7 y7 z7 st7 hQ7
  subst l7 y7 z7
  obtain ⟨rfl, N7q, K7, E7, Fa7, Fb7⟩ := hQ7
  have N7 := Fr.app N5 N7q
  have E4_h7 := (E4_h6.keep K7)
  have Fa4_h7 := (Fa4_h6.keep K7 (by simp only [List.mem_cons, List.not_mem_nil, or_false, not_or]; exact ne_b3_b6))
  have Fb4_h7 := (Fb4_h6.keep K7 (by simp only [List.mem_cons, List.not_mem_nil, or_false, not_or]; exact ne_b3_b6))
  have A6_h7 := (A6.keep K7)
  have Z7 := (Nat.le_trans Z6 K7.1)
  obtain ⟨cq8, kq8, q8a, q8b, q8c⟩ := isOf hZ rfl E7
  obtain ⟨_, _, ⟨T8, L8, k8, n8⟩, -, X8, ⟨Lc8, hQ8, l8, y8, z8⟩, st8⟩ := X7.virtualBack hx (y := (⟨"com/example/rate_gate/rategate/algorithm/Seconds", "compareTo", "(Lcom/example/rate_gate/rategate/algorithm/Seconds;)I"⟩ : MethodName)) (z := (⟨"com/example/rate_gate/rategate/algorithm/Seconds", "compareTo", "(Lcom/example/rate_gate/rategate/algorithm/Seconds;)I"⟩ : MethodName)) hown (mvT hZ (hw _ (List.mem_of_getElem? (i := 24) rfl))) (mvT hZ (hw _ (List.mem_of_getElem? (i := 25) rfl))) (notFace_of_selects (args := #[]) (mvT hZ (hw _ (List.mem_of_getElem? (i := 27) rfl)))) (mvT hZ (hw _ (List.mem_of_getElem? (i := 27) rfl))) (mvT hZ (hw _ (List.mem_of_getElem? (i := 26) rfl))) (by decide) (backOf (W := 0) (rm5e l Z a0 hw [] b6 b3 W (0 : Int64) W F (0 : Int32) T7.heap n0 Z7 Fa7 Fb7 Fa4_h7 Fb4_h7 (own_ee W) (own_fe hf)) hZ (hw _ (List.mem_of_getElem? (i := 28) rfl)) (hw _ (List.mem_of_getElem? (i := 3) rfl)) (by decide) (by decide)) q8a q8c (g := (mkF m 80 #[.val (.long q1), .second, .val (.long q2), .second, .val (.int p3), .val (.long W), .second, .val (.long F), .second, .val (.ref b3), .val (.long W), .second, .unset, .unset] [(.ref b3), (.ref b6)])) rfl (by rw [hml]; rfl) (Steps.refl _) (argsL := [(.ref b3)]) (rest := []) (lenOf pd_4 rfl) rfl (by show 2 * 0 + _ ≤ _; exact Nat.le_of_eq rfl) (hb hby at_80) (fun _ _ => ⟨rfl, rfl, (by decide : 2 + 0 ≤ _), (by decide : 4 + 0 ≤ _)⟩)
  dsimp only [Pt.U, Pt.locs, Pt.cells, Pt.slots] at X8 l8 y8 z8 st8 hQ8
  subst l8 y8 z8
  obtain ⟨rfl, N8q, e8⟩ := hQ8
  have N8 := Fr.app N7 N8q
  obtain ⟨fs, hr, hrun, hended, hW, hsame⟩ := X8.leave (v := some (.int (1 : Int32))) (fun h => by rw [Bd.returns] at h; cases h)
  refine ⟨_, _, pre0 _ ?_, hrun, hended, _, _, rfl, ?_, ⟨_, rfl⟩, hW, hsame.mono (by decide) (by decide)⟩
  · show Steps p.tables e below (s₁.setTop (mkF m 0 #[.val (.long q1), .second, .val (.long q2), .second, .val (.int p3), .unset, .unset, .unset, .unset, .unset, .unset, .unset, .unset, .unset] [])) _
    refine XS.lloadN X0.here hx rfl (hb hby at_0) rfl ?_
    show Steps p.tables e below (s₁.setTop (mkF m 1 #[.val (.long q1), .second, .val (.long q2), .second, .val (.int p3), .unset, .unset, .unset, .unset, .unset, .unset, .unset, .unset, .unset] [(.long q1)])) _
    refine X0.ldc2Long hx hown (mvT hZ (hw _ (List.mem_of_getElem? (i := 0) rfl))) (g := (mkF m 1 #[.val (.long q1), .second, .val (.long q2), .second, .val (.int p3), .unset, .unset, .unset, .unset, .unset, .unset, .unset, .unset, .unset] [(.long q1)])) rfl (hb hby at_1) _ ?_
    show Steps p.tables e below (s₁.setTop (mkF m 4 #[.val (.long q1), .second, .val (.long q2), .second, .val (.int p3), .unset, .unset, .unset, .unset, .unset, .unset, .unset, .unset, .unset] [(.long (9223372036854775807 : Int64)), (.long q1)])) _
    refine XS.land X0.here hx rfl (hb hby at_4) rfl ?_
    show Steps p.tables e below (s₁.setTop (mkF m 5 #[.val (.long q1), .second, .val (.long q2), .second, .val (.int p3), .unset, .unset, .unset, .unset, .unset, .unset, .unset, .unset, .unset] [(.long (q1 &&& (9223372036854775807 : Int64)))])) _
    refine XS.lstore X0.here hx rfl (hb hby at_5) rfl (l' := #[.val (.long q1), .second, .val (.long q2), .second, .val (.int p3), .val (.long (q1 &&& (9223372036854775807 : Int64))), .second, .unset, .unset, .unset, .unset, .unset, .unset, .unset]) rfl ?_
    show Steps p.tables e below (s₁.setTop (mkF m 7 #[.val (.long q1), .second, .val (.long q2), .second, .val (.int p3), .val (.long (q1 &&& (9223372036854775807 : Int64))), .second, .unset, .unset, .unset, .unset, .unset, .unset, .unset] [])) _
    refine stW _ ?_
    show Steps p.tables e below (s₁.setTop (mkF m 7 #[.val (.long q1), .second, .val (.long q2), .second, .val (.int p3), .val (.long W), .second, .unset, .unset, .unset, .unset, .unset, .unset, .unset] [])) _
    refine st1 _ ?_
    show Steps p.tables e below (s₁.setTop (mkF m 19 #[.val (.long q1), .second, .val (.long q2), .second, .val (.int p3), .val (.long W), .second, .unset, .unset, .unset, .unset, .unset, .unset, .unset] [(.long F)])) _
    refine XS.lstore X0.here hx rfl (hb hby at_19) rfl (l' := #[.val (.long q1), .second, .val (.long q2), .second, .val (.int p3), .val (.long W), .second, .val (.long F), .second, .unset, .unset, .unset, .unset, .unset]) rfl ?_
    show Steps p.tables e below (s₁.setTop (mkF m 21 #[.val (.long q1), .second, .val (.long q2), .second, .val (.int p3), .val (.long W), .second, .val (.long F), .second, .unset, .unset, .unset, .unset, .unset] [])) _
    refine st2 _ ?_
    show Steps p.tables e below (s₁.setTop (mkF m 39 #[.val (.long q1), .second, .val (.long q2), .second, .val (.int p3), .val (.long W), .second, .val (.long F), .second, .unset, .unset, .unset, .unset, .unset] [])) _
    refine st3 _ ?_
    show Steps p.tables e below (T3.setTop (mkF m 42 #[.val (.long q1), .second, .val (.long q2), .second, .val (.int p3), .val (.long W), .second, .val (.long F), .second, .unset, .unset, .unset, .unset, .unset] [(.ref b3)])) _
    refine XS.dup X3.here hx rfl (hb hby at_42) rfl rfl ?_
    show Steps p.tables e below (T3.setTop (mkF m 43 #[.val (.long q1), .second, .val (.long q2), .second, .val (.int p3), .val (.long W), .second, .val (.long F), .second, .unset, .unset, .unset, .unset, .unset] [(.ref b3), (.ref b3)])) _
    refine XS.lload X3.here hx rfl (hb hby at_43) rfl ?_
    show Steps p.tables e below (T3.setTop (mkF m 45 #[.val (.long q1), .second, .val (.long q2), .second, .val (.int p3), .val (.long W), .second, .val (.long F), .second, .unset, .unset, .unset, .unset, .unset] [(.long W), (.ref b3), (.ref b3)])) _
    refine XS.lload X3.here hx rfl (hb hby at_45) rfl ?_
    show Steps p.tables e below (T3.setTop (mkF m 47 #[.val (.long q1), .second, .val (.long q2), .second, .val (.int p3), .val (.long W), .second, .val (.long F), .second, .unset, .unset, .unset, .unset, .unset] [(.long F), (.long W), (.ref b3), (.ref b3)])) _
    refine st4.trans ?_
    show Steps p.tables e below (T4.setTop (mkF m 50 #[.val (.long q1), .second, .val (.long q2), .second, .val (.int p3), .val (.long W), .second, .val (.long F), .second, .unset, .unset, .unset, .unset, .unset] [(.ref b3)])) _
    refine XS.astore X4.here hx rfl (hb hby at_50) rfl rfl (l' := #[.val (.long q1), .second, .val (.long q2), .second, .val (.int p3), .val (.long W), .second, .val (.long F), .second, .val (.ref b3), .unset, .unset, .unset, .unset]) rfl ?_
    show Steps p.tables e below (T4.setTop (mkF m 52 #[.val (.long q1), .second, .val (.long q2), .second, .val (.int p3), .val (.long W), .second, .val (.long F), .second, .val (.ref b3), .unset, .unset, .unset, .unset] [])) _
    refine XS.aload X4.here hx rfl (hb hby at_52) rfl rfl ?_
    show Steps p.tables e below (T4.setTop (mkF m 54 #[.val (.long q1), .second, .val (.long q2), .second, .val (.int p3), .val (.long W), .second, .val (.long F), .second, .val (.ref b3), .unset, .unset, .unset, .unset] [(.ref b3)])) _
    refine st5.trans ?_
    show Steps p.tables e below (T5.setTop (mkF m 57 #[.val (.long q1), .second, .val (.long q2), .second, .val (.int p3), .val (.long W), .second, .val (.long F), .second, .val (.ref b3), .unset, .unset, .unset, .unset] [(.long W)])) _
    refine XS.lstore X5.here hx rfl (hb hby at_57) rfl (l' := #[.val (.long q1), .second, .val (.long q2), .second, .val (.int p3), .val (.long W), .second, .val (.long F), .second, .val (.ref b3), .val (.long W), .second, .unset, .unset]) rfl ?_
    show Steps p.tables e below (T5.setTop (mkF m 59 #[.val (.long q1), .second, .val (.long q2), .second, .val (.int p3), .val (.long W), .second, .val (.long F), .second, .val (.ref b3), .val (.long W), .second, .unset, .unset] [])) _
    refine XS.lload X5.here hx rfl (hb hby at_59) rfl ?_
    show Steps p.tables e below (T5.setTop (mkF m 61 #[.val (.long q1), .second, .val (.long q2), .second, .val (.int p3), .val (.long W), .second, .val (.long F), .second, .val (.ref b3), .val (.long W), .second, .unset, .unset] [(.long W)])) _
    refine XS.lconst X5.here hx rfl (hb hby at_61) ?_
    show Steps p.tables e below (T5.setTop (mkF m 62 #[.val (.long q1), .second, .val (.long q2), .second, .val (.int p3), .val (.long W), .second, .val (.long F), .second, .val (.ref b3), .val (.long W), .second, .unset, .unset] [(.long (0 : Int64)), (.long W)])) _
    refine XS.lcmp X5.here hx rfl (hb hby at_62) rfl ?_
    show Steps p.tables e below (T5.setTop (mkF m 63 #[.val (.long q1), .second, .val (.long q2), .second, .val (.int p3), .val (.long W), .second, .val (.long F), .second, .val (.ref b3), .val (.long W), .second, .unset, .unset] [(.int (lcmpW W (0 : Int64)))])) _
    refine XS.ifYes X5.here hx rfl (pc0 := 63) (pc' := 68) rfl (hb hby at_63) rfl ((if0 _ _).trans (flt (fun q => hW0 ((lw_lt _ _).mp q) : ¬ ((lcmpW W (0 : Int64)) < (0 : Int32)))).2.1) (by decide) (by decide) ?_
    show Steps p.tables e below (T5.setTop (mkF m 68 #[.val (.long q1), .second, .val (.long q2), .second, .val (.int p3), .val (.long W), .second, .val (.long F), .second, .val (.ref b3), .val (.long W), .second, .unset, .unset] [])) _
    refine st6 _ ?_
    show Steps p.tables e below (T6.setTop (mkF m 71 #[.val (.long q1), .second, .val (.long q2), .second, .val (.int p3), .val (.long W), .second, .val (.long F), .second, .val (.ref b3), .val (.long W), .second, .unset, .unset] [(.ref b6)])) _
    refine XS.dup X6.here hx rfl (hb hby at_71) rfl rfl ?_
    show Steps p.tables e below (T6.setTop (mkF m 72 #[.val (.long q1), .second, .val (.long q2), .second, .val (.int p3), .val (.long W), .second, .val (.long F), .second, .val (.ref b3), .val (.long W), .second, .unset, .unset] [(.ref b6), (.ref b6)])) _
    refine XS.lload X6.here hx rfl (hb hby at_72) rfl ?_
    show Steps p.tables e below (T6.setTop (mkF m 74 #[.val (.long q1), .second, .val (.long q2), .second, .val (.int p3), .val (.long W), .second, .val (.long F), .second, .val (.ref b3), .val (.long W), .second, .unset, .unset] [(.long W), (.ref b6), (.ref b6)])) _
    refine XS.lconst X6.here hx rfl (hb hby at_74) ?_
    show Steps p.tables e below (T6.setTop (mkF m 75 #[.val (.long q1), .second, .val (.long q2), .second, .val (.int p3), .val (.long W), .second, .val (.long F), .second, .val (.ref b3), .val (.long W), .second, .unset, .unset] [(.long (0 : Int64)), (.long W), (.ref b6), (.ref b6)])) _
    refine st7.trans ?_
    show Steps p.tables e below (T7.setTop (mkF m 78 #[.val (.long q1), .second, .val (.long q2), .second, .val (.int p3), .val (.long W), .second, .val (.long F), .second, .val (.ref b3), .val (.long W), .second, .unset, .unset] [(.ref b6)])) _
    refine XS.aload X7.here hx rfl (hb hby at_78) rfl rfl ?_
    show Steps p.tables e below (T7.setTop (mkF m 80 #[.val (.long q1), .second, .val (.long q2), .second, .val (.int p3), .val (.long W), .second, .val (.long F), .second, .val (.ref b3), .val (.long W), .second, .unset, .unset] [(.ref b3), (.ref b6)])) _
    refine st8.trans ?_
    show Steps p.tables e below (T8.setTop (mkF m 83 #[.val (.long q1), .second, .val (.long q2), .second, .val (.int p3), .val (.long W), .second, .val (.long F), .second, .val (.ref b3), .val (.long W), .second, .unset, .unset] [(.int (0 : Int32))])) _
    refine XS.ifNo X8.here hx rfl (hb hby at_83) rfl ((if0 _ _).trans (flt (by decide : ¬ ((0 : Int32) < (0 : Int32)))).1) ?_
    show Steps p.tables e below (T8.setTop (mkF m 86 #[.val (.long q1), .second, .val (.long q2), .second, .val (.int p3), .val (.long W), .second, .val (.long F), .second, .val (.ref b3), .val (.long W), .second, .unset, .unset] [])) _
    refine XS.iconst X8.here hx rfl (hb hby at_86) ?_
    show Steps p.tables e below (T8.setTop (mkF m 87 #[.val (.long q1), .second, .val (.long q2), .second, .val (.int p3), .val (.long W), .second, .val (.long F), .second, .val (.ref b3), .val (.long W), .second, .unset, .unset] [(.int (1 : Int32))])) _
    refine XS.goto X8.here hx rfl (pc0 := 87) (pc' := 91) rfl (hb hby at_87) (by decide) (by decide) ?_
    show Steps p.tables e below (T8.setTop (mkF m 91 #[.val (.long q1), .second, .val (.long q2), .second, .val (.int p3), .val (.long W), .second, .val (.long F), .second, .val (.ref b3), .val (.long W), .second, .unset, .unset] [(.int (1 : Int32))])) _
    refine XS.istore X8.here hx rfl (hb hby at_91) rfl (l' := #[.val (.long q1), .second, .val (.long q2), .second, .val (.int p3), .val (.long W), .second, .val (.long F), .second, .val (.ref b3), .val (.long W), .second, .val (.int (1 : Int32)), .unset]) rfl ?_
    show Steps p.tables e below (T8.setTop (mkF m 93 #[.val (.long q1), .second, .val (.long q2), .second, .val (.int p3), .val (.long W), .second, .val (.long F), .second, .val (.ref b3), .val (.long W), .second, .val (.int (1 : Int32)), .unset] [])) _
    refine XS.lload X8.here hx rfl (hb hby at_93) rfl ?_
    show Steps p.tables e below (T8.setTop (mkF m 95 #[.val (.long q1), .second, .val (.long q2), .second, .val (.int p3), .val (.long W), .second, .val (.long F), .second, .val (.ref b3), .val (.long W), .second, .val (.int (1 : Int32)), .unset] [(.long W)])) _
    refine XS.lconst X8.here hx rfl (hb hby at_95) ?_
    show Steps p.tables e below (T8.setTop (mkF m 96 #[.val (.long q1), .second, .val (.long q2), .second, .val (.int p3), .val (.long W), .second, .val (.long F), .second, .val (.ref b3), .val (.long W), .second, .val (.int (1 : Int32)), .unset] [(.long (0 : Int64)), (.long W)])) _
    refine XS.lcmp X8.here hx rfl (hb hby at_96) rfl ?_
    show Steps p.tables e below (T8.setTop (mkF m 97 #[.val (.long q1), .second, .val (.long q2), .second, .val (.int p3), .val (.long W), .second, .val (.long F), .second, .val (.ref b3), .val (.long W), .second, .val (.int (1 : Int32)), .unset] [(.int (lcmpW W (0 : Int64)))])) _
    refine XS.ifYes X8.here hx rfl (pc0 := 97) (pc' := 120) rfl (hb hby at_97) rfl ((if0 _ _).trans (teq ((lw_eq _ _).mpr hz : (lcmpW W (0 : Int64)) = (0 : Int32))).1) (by decide) (by decide) ?_
    show Steps p.tables e below (T8.setTop (mkF m 120 #[.val (.long q1), .second, .val (.long q2), .second, .val (.int p3), .val (.long W), .second, .val (.long F), .second, .val (.ref b3), .val (.long W), .second, .val (.int (1 : Int32)), .unset] [])) _
    refine XS.iconst X8.here hx rfl (hb hby at_120) ?_
    show Steps p.tables e below (T8.setTop (mkF m 121 #[.val (.long q1), .second, .val (.long q2), .second, .val (.int p3), .val (.long W), .second, .val (.long F), .second, .val (.ref b3), .val (.long W), .second, .val (.int (1 : Int32)), .unset] [(.int (1 : Int32))])) _
    refine XS.goto X8.here hx rfl (pc0 := 121) (pc' := 125) rfl (hb hby at_121) (by decide) (by decide) ?_
    show Steps p.tables e below (T8.setTop (mkF m 125 #[.val (.long q1), .second, .val (.long q2), .second, .val (.int p3), .val (.long W), .second, .val (.long F), .second, .val (.ref b3), .val (.long W), .second, .val (.int (1 : Int32)), .unset] [(.int (1 : Int32))])) _
    refine XS.istore X8.here hx rfl (hb hby at_125) rfl (l' := #[.val (.long q1), .second, .val (.long q2), .second, .val (.int p3), .val (.long W), .second, .val (.long F), .second, .val (.ref b3), .val (.long W), .second, .val (.int (1 : Int32)), .val (.int (1 : Int32))]) rfl ?_
    show Steps p.tables e below (T8.setTop (mkF m 127 #[.val (.long q1), .second, .val (.long q2), .second, .val (.int p3), .val (.long W), .second, .val (.long F), .second, .val (.ref b3), .val (.long W), .second, .val (.int (1 : Int32)), .val (.int (1 : Int32))] [])) _
    refine XS.iload X8.here hx rfl (hb hby at_127) rfl ?_
    show Steps p.tables e below (T8.setTop (mkF m 129 #[.val (.long q1), .second, .val (.long q2), .second, .val (.int p3), .val (.long W), .second, .val (.long F), .second, .val (.ref b3), .val (.long W), .second, .val (.int (1 : Int32)), .val (.int (1 : Int32))] [(.int (1 : Int32))])) _
    refine XS.ifNo X8.here hx rfl (hb hby at_129) rfl ((if0 _ _).trans (feq (by decide : ¬ ((1 : Int32) = (0 : Int32)))).1) ?_
    show Steps p.tables e below (T8.setTop (mkF m 132 #[.val (.long q1), .second, .val (.long q2), .second, .val (.int p3), .val (.long W), .second, .val (.long F), .second, .val (.ref b3), .val (.long W), .second, .val (.int (1 : Int32)), .val (.int (1 : Int32))] [])) _
    refine XS.iload X8.here hx rfl (hb hby at_132) rfl ?_
    show Steps p.tables e below (T8.setTop (mkF m 134 #[.val (.long q1), .second, .val (.long q2), .second, .val (.int p3), .val (.long W), .second, .val (.long F), .second, .val (.ref b3), .val (.long W), .second, .val (.int (1 : Int32)), .val (.int (1 : Int32))] [(.int (1 : Int32))])) _
    refine XS.ifNo X8.here hx rfl (hb hby at_134) rfl ((if0 _ _).trans (feq (by decide : ¬ ((1 : Int32) = (0 : Int32)))).1) ?_
    show Steps p.tables e below (T8.setTop (mkF m 137 #[.val (.long q1), .second, .val (.long q2), .second, .val (.int p3), .val (.long W), .second, .val (.long F), .second, .val (.ref b3), .val (.long W), .second, .val (.int (1 : Int32)), .val (.int (1 : Int32))] [])) _
    refine XS.iconst X8.here hx rfl (hb hby at_137) ?_
    show Steps p.tables e below (T8.setTop (mkF m 138 #[.val (.long q1), .second, .val (.long q2), .second, .val (.int p3), .val (.long W), .second, .val (.long F), .second, .val (.ref b3), .val (.long W), .second, .val (.int (1 : Int32)), .val (.int (1 : Int32))] [(.int (1 : Int32))])) _
    refine XS.goto X8.here hx rfl (pc0 := 138) (pc' := 142) rfl (hb hby at_138) (by decide) (by decide) ?_
    show Steps p.tables e below (T8.setTop (mkF m 142 #[.val (.long q1), .second, .val (.long q2), .second, .val (.int p3), .val (.long W), .second, .val (.long F), .second, .val (.ref b3), .val (.long W), .second, .val (.int (1 : Int32)), .val (.int (1 : Int32))] [(.int (1 : Int32))])) _
    exact retN X8 hx (t := .boolean) Bd.returns (by simp) (hb hby at_142) hr
  · show Q0B Z q1 q2 p3  h0 n0 _ T8.heap _
    rw [e8]
    exact ⟨rfl, N8⟩

theorem ef_0D (m : MethodId) (x0 : Int64) (x1 : Int64) (x2 : Int32) : entryFrame m #[(.long x0), (.long x1), (.int x2)] maxLocals = mkF m 0 #[.val (.long x0), .second, .val (.long x1), .second, .val (.int x2), .unset, .unset, .unset, .unset, .unset, .unset, .unset, .unset, .unset] [] := by first | (simp [entryFrame, mkF, argsToLocals, Value.category, maxLocals]; done) | rfl
def Q0D (Z : State) (q1 : Int64) (q2 : Int64) (p3 : Int32)  (h0 : Heap) (n0 : Nat) (v : Option Value) (h : Heap) (L : List Loc) : Prop := v = some (.int (1 : Int32)) ∧ Fr n0 L
set_option maxRecDepth 65536 in
set_option maxHeartbeats 40000000 in
theorem rm0D (l : Launch) (Z : State) (a0 : Array Value) (hw : ∀ d ∈ tables_1, d.before a0 Z = true) (ws : List Jvm.Cond) (q1 : Int64) (q2 : Int64) (p3 : Int32)  (h0 : Heap) (n0 : Nat) (Z0 : n0 ≤ h0.size) (hf : (if (p3 &&& (1 : Int32)) = (0 : Int32) then (0 : Int64) else q2) = (0 : Int64)) (hz : ¬ (q1 &&& (9223372036854775807 : Int64)) = (0 : Int64)) :
    MetFree l x (head1 (Jvm.Cond.code x code maxLocals ret :: ws) room_1) (fun a U => a = #[(.long q1), (.long q2), (.int p3)] ∧ Z.Warmed39 U.vm ∧ U.heap = h0) (fun _ _ _ _ _ => True) (fun _ U o U' => ∃ v L, o = .returned v ∧ Q0D Z q1 q2 p3  h0 n0 v U'.heap L ∧ FrameEnd U o U' L room_1.cells room_1.slots) := by
  refine MetFree.of_bodySF (plainFor_of_name pn_4) hisR ?_
  intro p e s m args below meth c s₁ Bd hml0 hP hK
  obtain ⟨rfl, hZ, hh⟩ := hP
  have hx := Bd.exec
  have hby := Bd.bytes
  have hml : c.maxLocals = 14 := hml0
  have hown : s.vm.findClass "com/example/rate_gate/rategate/algorithm/SecondsRoundedUpPinLaw" = some m.cls := findClass_of_methodNamed Bd.named
  have hnm := (name_of_methodNamed Bd.named Bd.method).1
  have X0 : Stand p l e room_1 s m #[(.long q1), (.long q2), (.int p3)] below meth c s₁ [] 0 0 := Stand.of_body Bd
  have e0 : s₁.heap = h0 := by rw [← hh, Bd.state]; rfl
  have N0 := Fr.nil n0
  have pre0 : ∀ t, Steps p.tables e below (s₁.setTop (mkF m 0 #[.val (.long q1), .second, .val (.long q2), .second, .val (.int p3), .unset, .unset, .unset, .unset, .unset, .unset, .unset, .unset, .unset] [])) t → Steps p.tables e below (s₁.setTop (entryFrame m #[(.long q1), (.long q2), (.int p3)] maxLocals)) t := fun t k => castTop (ef_0D m q1 q2 p3) k
  obtain ⟨W, hW⟩ : ∃ z : Int64, z = (q1 &&& (9223372036854775807 : Int64)) := ⟨_, rfl⟩
  have stW : ∀ t, Steps p.tables e below (s₁.setTop (mkF m 7 #[.val (.long q1), .second, .val (.long q2), .second, .val (.int p3), .val (.long W), .second, .unset, .unset, .unset, .unset, .unset, .unset, .unset] [])) t → Steps p.tables e below (s₁.setTop (mkF m 7 #[.val (.long q1), .second, .val (.long q2), .second, .val (.int p3), .val (.long (q1 &&& (9223372036854775807 : Int64))), .second, .unset, .unset, .unset, .unset, .unset, .unset, .unset] [])) t := by subst hW; exact fun _ k => k
  obtain ⟨F, hF⟩ : ∃ z : Int64, z = (if (p3 &&& (1 : Int32)) = (0 : Int32) then (0 : Int64) else q2) := ⟨_, rfl⟩
  have st1 : ∀ t, Steps p.tables e below (s₁.setTop (mkF m 19 #[.val (.long q1), .second, .val (.long q2), .second, .val (.int p3), .val (.long W), .second, .unset, .unset, .unset, .unset, .unset, .unset, .unset] [(.long F)])) t → Steps p.tables e below (s₁.setTop (mkF m 7 #[.val (.long q1), .second, .val (.long q2), .second, .val (.int p3), .val (.long W), .second, .unset, .unset, .unset, .unset, .unset, .unset, .unset] [])) t := by
    intro t k
    by_cases hcs1 : (p3 &&& (1 : Int32)) = (0 : Int32)
    · skip
      rw [if_pos hcs1] at hF
      rw [hF] at k
      show Steps p.tables e below (s₁.setTop (mkF m 7 #[.val (.long q1), .second, .val (.long q2), .second, .val (.int p3), .val (.long W), .second, .unset, .unset, .unset, .unset, .unset, .unset, .unset] [])) _
      refine XS.iload X0.here hx rfl (hb hby at_7) rfl ?_
      show Steps p.tables e below (s₁.setTop (mkF m 9 #[.val (.long q1), .second, .val (.long q2), .second, .val (.int p3), .val (.long W), .second, .unset, .unset, .unset, .unset, .unset, .unset, .unset] [(.int p3)])) _
      refine XS.iconst X0.here hx rfl (hb hby at_9) ?_
      show Steps p.tables e below (s₁.setTop (mkF m 10 #[.val (.long q1), .second, .val (.long q2), .second, .val (.int p3), .val (.long W), .second, .unset, .unset, .unset, .unset, .unset, .unset, .unset] [(.int (1 : Int32)), (.int p3)])) _
      refine XS.iand X0.here hx rfl (hb hby at_10) rfl ?_
      show Steps p.tables e below (s₁.setTop (mkF m 11 #[.val (.long q1), .second, .val (.long q2), .second, .val (.int p3), .val (.long W), .second, .unset, .unset, .unset, .unset, .unset, .unset, .unset] [(.int (p3 &&& (1 : Int32)))])) _
      refine XS.ifNo X0.here hx rfl (hb hby at_11) rfl ((if0 _ _).trans (teq hcs1).2) ?_
      show Steps p.tables e below (s₁.setTop (mkF m 14 #[.val (.long q1), .second, .val (.long q2), .second, .val (.int p3), .val (.long W), .second, .unset, .unset, .unset, .unset, .unset, .unset, .unset] [])) _
      refine XS.lconst X0.here hx rfl (hb hby at_14) ?_
      show Steps p.tables e below (s₁.setTop (mkF m 15 #[.val (.long q1), .second, .val (.long q2), .second, .val (.int p3), .val (.long W), .second, .unset, .unset, .unset, .unset, .unset, .unset, .unset] [(.long (0 : Int64))])) _
      refine XS.goto X0.here hx rfl (pc0 := 15) (pc' := 19) rfl (hb hby at_15) (by decide) (by decide) ?_
      exact k
    · skip
      rw [if_neg hcs1] at hF
      rw [hF] at k
      show Steps p.tables e below (s₁.setTop (mkF m 7 #[.val (.long q1), .second, .val (.long q2), .second, .val (.int p3), .val (.long W), .second, .unset, .unset, .unset, .unset, .unset, .unset, .unset] [])) _
      refine XS.iload X0.here hx rfl (hb hby at_7) rfl ?_
      show Steps p.tables e below (s₁.setTop (mkF m 9 #[.val (.long q1), .second, .val (.long q2), .second, .val (.int p3), .val (.long W), .second, .unset, .unset, .unset, .unset, .unset, .unset, .unset] [(.int p3)])) _
      refine XS.iconst X0.here hx rfl (hb hby at_9) ?_
      show Steps p.tables e below (s₁.setTop (mkF m 10 #[.val (.long q1), .second, .val (.long q2), .second, .val (.int p3), .val (.long W), .second, .unset, .unset, .unset, .unset, .unset, .unset, .unset] [(.int (1 : Int32)), (.int p3)])) _
      refine XS.iand X0.here hx rfl (hb hby at_10) rfl ?_
      show Steps p.tables e below (s₁.setTop (mkF m 11 #[.val (.long q1), .second, .val (.long q2), .second, .val (.int p3), .val (.long W), .second, .unset, .unset, .unset, .unset, .unset, .unset, .unset] [(.int (p3 &&& (1 : Int32)))])) _
      refine XS.ifYes X0.here hx rfl (pc0 := 11) (pc' := 18) rfl (hb hby at_11) rfl ((if0 _ _).trans (feq hcs1).2) (by decide) (by decide) ?_
      show Steps p.tables e below (s₁.setTop (mkF m 18 #[.val (.long q1), .second, .val (.long q2), .second, .val (.int p3), .val (.long W), .second, .unset, .unset, .unset, .unset, .unset, .unset, .unset] [])) _
      refine XS.lloadN X0.here hx rfl (hb hby at_18) rfl ?_
      exact k
  have hW0 : ¬ W < (0 : Int64) := own_w0 hW
  rw [← hW] at hz
  rw [← hF] at hf
  have st2 : ∀ t, Steps p.tables e below (s₁.setTop (mkF m 39 #[.val (.long q1), .second, .val (.long q2), .second, .val (.int p3), .val (.long W), .second, .val (.long F), .second, .unset, .unset, .unset, .unset, .unset] [])) t → Steps p.tables e below (s₁.setTop (mkF m 21 #[.val (.long q1), .second, .val (.long q2), .second, .val (.int p3), .val (.long W), .second, .val (.long F), .second, .unset, .unset, .unset, .unset, .unset] [])) t := by
    intro t k
    by_cases hcs1 : (lcmpW W (9223372036854775807 : Int64)) = (0 : Int32)
    · skip
      show Steps p.tables e below (s₁.setTop (mkF m 21 #[.val (.long q1), .second, .val (.long q2), .second, .val (.int p3), .val (.long W), .second, .val (.long F), .second, .unset, .unset, .unset, .unset, .unset] [])) _
      refine XS.lload X0.here hx rfl (hb hby at_21) rfl ?_
      show Steps p.tables e below (s₁.setTop (mkF m 23 #[.val (.long q1), .second, .val (.long q2), .second, .val (.int p3), .val (.long W), .second, .val (.long F), .second, .unset, .unset, .unset, .unset, .unset] [(.long W)])) _
      refine X0.ldc2Long hx hown (mvT hZ (hw _ (List.mem_of_getElem? (i := 0) rfl))) (g := (mkF m 23 #[.val (.long q1), .second, .val (.long q2), .second, .val (.int p3), .val (.long W), .second, .val (.long F), .second, .unset, .unset, .unset, .unset, .unset] [(.long W)])) rfl (hb hby at_23) _ ?_
      show Steps p.tables e below (s₁.setTop (mkF m 26 #[.val (.long q1), .second, .val (.long q2), .second, .val (.int p3), .val (.long W), .second, .val (.long F), .second, .unset, .unset, .unset, .unset, .unset] [(.long (9223372036854775807 : Int64)), (.long W)])) _
      refine XS.lcmp X0.here hx rfl (hb hby at_26) rfl ?_
      show Steps p.tables e below (s₁.setTop (mkF m 27 #[.val (.long q1), .second, .val (.long q2), .second, .val (.int p3), .val (.long W), .second, .val (.long F), .second, .unset, .unset, .unset, .unset, .unset] [(.int (lcmpW W (9223372036854775807 : Int64)))])) _
      refine XS.ifNo X0.here hx rfl (hb hby at_27) rfl ((if0 _ _).trans (teq hcs1).2) ?_
      show Steps p.tables e below (s₁.setTop (mkF m 30 #[.val (.long q1), .second, .val (.long q2), .second, .val (.int p3), .val (.long W), .second, .val (.long F), .second, .unset, .unset, .unset, .unset, .unset] [])) _
      refine XS.lload X0.here hx rfl (hb hby at_30) rfl ?_
      show Steps p.tables e below (s₁.setTop (mkF m 32 #[.val (.long q1), .second, .val (.long q2), .second, .val (.int p3), .val (.long W), .second, .val (.long F), .second, .unset, .unset, .unset, .unset, .unset] [(.long F)])) _
      refine XS.lconst X0.here hx rfl (hb hby at_32) ?_
      show Steps p.tables e below (s₁.setTop (mkF m 33 #[.val (.long q1), .second, .val (.long q2), .second, .val (.int p3), .val (.long W), .second, .val (.long F), .second, .unset, .unset, .unset, .unset, .unset] [(.long (0 : Int64)), (.long F)])) _
      refine XS.lcmp X0.here hx rfl (hb hby at_33) rfl ?_
      show Steps p.tables e below (s₁.setTop (mkF m 34 #[.val (.long q1), .second, .val (.long q2), .second, .val (.int p3), .val (.long W), .second, .val (.long F), .second, .unset, .unset, .unset, .unset, .unset] [(.int (lcmpW F (0 : Int64)))])) _
      refine XS.ifYes X0.here hx rfl (pc0 := 34) (pc' := 39) rfl (hb hby at_34) rfl ((if0 _ _).trans (teq ((lw_eq _ _).mpr hf)).1) (by decide) (by decide) ?_
      exact k
    · skip
      show Steps p.tables e below (s₁.setTop (mkF m 21 #[.val (.long q1), .second, .val (.long q2), .second, .val (.int p3), .val (.long W), .second, .val (.long F), .second, .unset, .unset, .unset, .unset, .unset] [])) _
      refine XS.lload X0.here hx rfl (hb hby at_21) rfl ?_
      show Steps p.tables e below (s₁.setTop (mkF m 23 #[.val (.long q1), .second, .val (.long q2), .second, .val (.int p3), .val (.long W), .second, .val (.long F), .second, .unset, .unset, .unset, .unset, .unset] [(.long W)])) _
      refine X0.ldc2Long hx hown (mvT hZ (hw _ (List.mem_of_getElem? (i := 0) rfl))) (g := (mkF m 23 #[.val (.long q1), .second, .val (.long q2), .second, .val (.int p3), .val (.long W), .second, .val (.long F), .second, .unset, .unset, .unset, .unset, .unset] [(.long W)])) rfl (hb hby at_23) _ ?_
      show Steps p.tables e below (s₁.setTop (mkF m 26 #[.val (.long q1), .second, .val (.long q2), .second, .val (.int p3), .val (.long W), .second, .val (.long F), .second, .unset, .unset, .unset, .unset, .unset] [(.long (9223372036854775807 : Int64)), (.long W)])) _
      refine XS.lcmp X0.here hx rfl (hb hby at_26) rfl ?_
      show Steps p.tables e below (s₁.setTop (mkF m 27 #[.val (.long q1), .second, .val (.long q2), .second, .val (.int p3), .val (.long W), .second, .val (.long F), .second, .unset, .unset, .unset, .unset, .unset] [(.int (lcmpW W (9223372036854775807 : Int64)))])) _
      refine XS.ifYes X0.here hx rfl (pc0 := 27) (pc' := 39) rfl (hb hby at_27) rfl ((if0 _ _).trans (feq hcs1).2) (by decide) (by decide) ?_
      exact k
  obtain ⟨T3, h3, X3, e3, E3, A3, D3, -, st3⟩ := newO X0 hx hZ hown (hw _ (List.mem_of_getElem? (i := 1) rfl)) (hw _ (List.mem_of_getElem? (i := 2) rfl)) (hw _ (List.mem_of_getElem? (i := 3) rfl)) e0 (g := (mkF m 39 #[.val (.long q1), .second, .val (.long q2), .second, .val (.int p3), .val (.long W), .second, .val (.long F), .second, .unset, .unset, .unset, .unset, .unset] [])) rfl (hb hby at_39) (by decide) (by decide)
  obtain ⟨b3, g3⟩ : ∃ z, z = h0.size := ⟨_, rfl⟩
  rw [← g3] at A3 D3 st3
  have g_b3 : n0 ≤ b3 := Nat.le_trans Z0 (Nat.le_of_eq g3.symm)
  have Z3 := (Nat.le_trans Z0 E3.1)
  have F_whole_b3 : Fld Z h3 b3 "com/example/rate_gate/rategate/algorithm/Seconds" "whole" "J" (.long (0 : Int64)) := D3 (Or.inr (hw _ (List.mem_of_getElem? (i := 16) rfl))) (ty := .long) (by decide)
  have F_fraction_b3 : Fld Z h3 b3 "com/example/rate_gate/rategate/algorithm/Seconds" "fraction" "J" (.long (0 : Int64)) := D3 (Or.inr (hw _ (List.mem_of_getElem? (i := 18) rfl))) (ty := .long) (by decide)
  obtain ⟨_, _, ⟨T4, L4, k4, n4⟩, -, X4, ⟨Lc4, hQ4, l4, y4, z4⟩, st4⟩ := X3.specialBack hx (y := (⟨"com/example/rate_gate/rategate/algorithm/Seconds", "<init>", "(JJ)V"⟩ : MethodName)) rfl hown (mvT hZ (hw _ (List.mem_of_getElem? (i := 4) rfl))) (mvT hZ (hw _ (List.mem_of_getElem? (i := 5) rfl))) (mvT hZ (hw _ (List.mem_of_getElem? (i := 6) rfl))) (by decide) (backOf (W := 1) (rm1 l Z a0 hw [] b3 W F (.long (0 : Int64)) (.long (0 : Int64)) h3 n0 Z3 g_b3 A3 F_whole_b3 F_fraction_b3 hW0) hZ (hw _ (List.mem_of_getElem? (i := 6) rfl)) (hw _ (List.mem_of_getElem? (i := 3) rfl)) (by decide) (by decide)) (g := (mkF m 47 #[.val (.long q1), .second, .val (.long q2), .second, .val (.int p3), .val (.long W), .second, .val (.long F), .second, .unset, .unset, .unset, .unset, .unset] [(.long F), (.long W), (.ref b3), (.ref b3)])) rfl (by rw [hml]; rfl) (Steps.refl _) (a := b3) (argsL := [(.long W), (.long F)]) (rest := [(.ref b3)]) (lenOf pd_2 rfl) rfl (by show 2 * 0 + _ ≤ _; exact Nat.le_of_eq rfl) (hb hby at_47) (fun _ _ => ⟨rfl, e3, (by decide : 1 + 0 ≤ _), (by decide : 2 + 0 ≤ _)⟩)
  dsimp only [Pt.U, Pt.locs, Pt.cells, Pt.slots] at X4 l4 y4 z4 st4 hQ4
  subst l4 y4 z4
  obtain ⟨rfl, N4q, K4, E4, Fa4, Fb4⟩ := hQ4
  have N4 := Fr.app N0 N4q
  have A3_h4 := (A3.keep K4)
  have Z4 := (Nat.le_trans Z3 K4.1)
  obtain ⟨cq5, kq5, q5a, q5b, q5c⟩ := isOf hZ rfl E4
  obtain ⟨_, _, ⟨T5, L5, k5, n5⟩, -, X5, ⟨Lc5, hQ5, l5, y5, z5⟩, st5⟩ := X4.virtualBack hx (y := (⟨"com/example/rate_gate/rategate/algorithm/Seconds", "roundedUp", "()J"⟩ : MethodName)) (z := (⟨"com/example/rate_gate/rategate/algorithm/Seconds", "roundedUp", "()J"⟩ : MethodName)) hown (mvT hZ (hw _ (List.mem_of_getElem? (i := 19) rfl))) (mvT hZ (hw _ (List.mem_of_getElem? (i := 20) rfl))) (notFace_of_selects (args := #[]) (mvT hZ (hw _ (List.mem_of_getElem? (i := 22) rfl)))) (mvT hZ (hw _ (List.mem_of_getElem? (i := 22) rfl))) (mvT hZ (hw _ (List.mem_of_getElem? (i := 21) rfl))) (by decide) (backOf (W := 0) (rm4z l Z a0 hw [] b3 W F T4.heap n0 Z4 Fa4 Fb4 hf) hZ (hw _ (List.mem_of_getElem? (i := 23) rfl)) (hw _ (List.mem_of_getElem? (i := 3) rfl)) (by decide) (by decide)) q5a q5c (g := (mkF m 54 #[.val (.long q1), .second, .val (.long q2), .second, .val (.int p3), .val (.long W), .second, .val (.long F), .second, .val (.ref b3), .unset, .unset, .unset, .unset] [(.ref b3)])) rfl (by rw [hml]; rfl) (Steps.refl _) (argsL := []) (rest := []) (lenOf pd_3 rfl) rfl (by show 2 * 0 + _ ≤ _; exact Nat.le_of_eq rfl) (hb hby at_54) (fun _ _ => ⟨rfl, rfl, (by decide : 1 + 0 ≤ _), (by decide : 2 + 0 ≤ _)⟩)
  dsimp only [Pt.U, Pt.locs, Pt.cells, Pt.slots] at X5 l5 y5 z5 st5 hQ5
  subst l5 y5 z5
  obtain ⟨rfl, N5q, e5⟩ := hQ5
  have N5 := Fr.app N4 N5q
  obtain ⟨T6, h6, X6, e6, E6, A6, D6, -, st6⟩ := newO X5 hx hZ hown (hw _ (List.mem_of_getElem? (i := 1) rfl)) (hw _ (List.mem_of_getElem? (i := 2) rfl)) (hw _ (List.mem_of_getElem? (i := 3) rfl)) e5 (g := (mkF m 68 #[.val (.long q1), .second, .val (.long q2), .second, .val (.int p3), .val (.long W), .second, .val (.long F), .second, .val (.ref b3), .val (.long W), .second, .unset, .unset] [])) rfl (hb hby at_68) (by decide) (by decide)
  obtain ⟨b6, g6⟩ : ∃ z, z = T4.heap.size := ⟨_, rfl⟩
  rw [← g6] at A6 D6 st6
  have g_b6 : n0 ≤ b6 := Nat.le_trans Z4 (Nat.le_of_eq g6.symm)
  have ne_b3_b6 : b3 ≠ b6 := Nat.ne_of_lt (Nat.lt_of_lt_of_le E4.lt (Nat.le_of_eq g6.symm))
  have E4_h6 := (E4.ext E6)
  have Fa4_h6 := (Fa4.ext E6)
  have Fb4_h6 := (Fb4.ext E6)
  have Z6 := (Nat.le_trans Z4 E6.1)
  have F_whole_b6 : Fld Z h6 b6 "com/example/rate_gate/rategate/algorithm/Seconds" "whole" "J" (.long (0 : Int64)) := D6 (Or.inr (hw _ (List.mem_of_getElem? (i := 16) rfl))) (ty := .long) (by decide)
  have F_fraction_b6 : Fld Z h6 b6 "com/example/rate_gate/rategate/algorithm/Seconds" "fraction" "J" (.long (0 : Int64)) := D6 (Or.inr (hw _ (List.mem_of_getElem? (i := 18) rfl))) (ty := .long) (by decide)
  obtain ⟨_, _, ⟨T7, L7, k7, n7⟩, -, X7, ⟨Lc7, hQ7, l7, y7, z7⟩, st7⟩ := X6.specialBack hx (y := (⟨"com/example/rate_gate/rategate/algorithm/Seconds", "<init>", "(JJ)V"⟩ : MethodName)) rfl hown (mvT hZ (hw _ (List.mem_of_getElem? (i := 4) rfl))) (mvT hZ (hw _ (List.mem_of_getElem? (i := 5) rfl))) (mvT hZ (hw _ (List.mem_of_getElem? (i := 6) rfl))) (by decide) (backOf (W := 1) (rm1 l Z a0 hw [] b6 W (0 : Int64) (.long (0 : Int64)) (.long (0 : Int64)) h6 n0 Z6 g_b6 A6 F_whole_b6 F_fraction_b6 hW0) hZ (hw _ (List.mem_of_getElem? (i := 6) rfl)) (hw _ (List.mem_of_getElem? (i := 3) rfl)) (by decide) (by decide)) (g := (mkF m 75 #[.val (.long q1), .second, .val (.long q2), .second, .val (.int p3), .val (.long W), .second, .val (.long F), .second, .val (.ref b3), .val (.long W), .second, .unset, .unset] [(.long (0 : Int64)), (.long W), (.ref b6), (.ref b6)])) rfl (by rw [hml]; rfl) (Steps.refl _) (a := b6) (argsL := [(.long W), (.long (0 : Int64))]) (rest := [(.ref b6)]) (lenOf pd_2 rfl) rfl (by show 2 * 0 + _ ≤ _; exact Nat.le_of_eq rfl) (hb hby at_75) (fun _ _ => ⟨rfl, e6, (by decide : 2 + 0 ≤ _), (by decide : 4 + 0 ≤ _)⟩)
  dsimp only [Pt.U, Pt.locs, Pt.cells, Pt.slots] at X7 l7 y7 z7 st7 hQ7
  subst l7 y7 z7
  obtain ⟨rfl, N7q, K7, E7, Fa7, Fb7⟩ := hQ7
  have N7 := Fr.app N5 N7q
  have E4_h7 := (E4_h6.keep K7)
  have Fa4_h7 := (Fa4_h6.keep K7 (by simp only [List.mem_cons, List.not_mem_nil, or_false, not_or]; exact ne_b3_b6))
  have Fb4_h7 := (Fb4_h6.keep K7 (by simp only [List.mem_cons, List.not_mem_nil, or_false, not_or]; exact ne_b3_b6))
  have A6_h7 := (A6.keep K7)
  have Z7 := (Nat.le_trans Z6 K7.1)
  obtain ⟨cq8, kq8, q8a, q8b, q8c⟩ := isOf hZ rfl E7
  obtain ⟨_, _, ⟨T8, L8, k8, n8⟩, -, X8, ⟨Lc8, hQ8, l8, y8, z8⟩, st8⟩ := X7.virtualBack hx (y := (⟨"com/example/rate_gate/rategate/algorithm/Seconds", "compareTo", "(Lcom/example/rate_gate/rategate/algorithm/Seconds;)I"⟩ : MethodName)) (z := (⟨"com/example/rate_gate/rategate/algorithm/Seconds", "compareTo", "(Lcom/example/rate_gate/rategate/algorithm/Seconds;)I"⟩ : MethodName)) hown (mvT hZ (hw _ (List.mem_of_getElem? (i := 24) rfl))) (mvT hZ (hw _ (List.mem_of_getElem? (i := 25) rfl))) (notFace_of_selects (args := #[]) (mvT hZ (hw _ (List.mem_of_getElem? (i := 27) rfl)))) (mvT hZ (hw _ (List.mem_of_getElem? (i := 27) rfl))) (mvT hZ (hw _ (List.mem_of_getElem? (i := 26) rfl))) (by decide) (backOf (W := 0) (rm5e l Z a0 hw [] b6 b3 W (0 : Int64) W F (0 : Int32) T7.heap n0 Z7 Fa7 Fb7 Fa4_h7 Fb4_h7 (own_ee W) (own_fe hf)) hZ (hw _ (List.mem_of_getElem? (i := 28) rfl)) (hw _ (List.mem_of_getElem? (i := 3) rfl)) (by decide) (by decide)) q8a q8c (g := (mkF m 80 #[.val (.long q1), .second, .val (.long q2), .second, .val (.int p3), .val (.long W), .second, .val (.long F), .second, .val (.ref b3), .val (.long W), .second, .unset, .unset] [(.ref b3), (.ref b6)])) rfl (by rw [hml]; rfl) (Steps.refl _) (argsL := [(.ref b3)]) (rest := []) (lenOf pd_4 rfl) rfl (by show 2 * 0 + _ ≤ _; exact Nat.le_of_eq rfl) (hb hby at_80) (fun _ _ => ⟨rfl, rfl, (by decide : 2 + 0 ≤ _), (by decide : 4 + 0 ≤ _)⟩)
  dsimp only [Pt.U, Pt.locs, Pt.cells, Pt.slots] at X8 l8 y8 z8 st8 hQ8
  subst l8 y8 z8
  obtain ⟨rfl, N8q, e8⟩ := hQ8
  have N8 := Fr.app N7 N8q
  obtain ⟨T9, h9, X9, e9, E9, A9, D9, -, st9⟩ := newO X8 hx hZ hown (hw _ (List.mem_of_getElem? (i := 1) rfl)) (hw _ (List.mem_of_getElem? (i := 2) rfl)) (hw _ (List.mem_of_getElem? (i := 3) rfl)) e8 (g := (mkF m 100 #[.val (.long q1), .second, .val (.long q2), .second, .val (.int p3), .val (.long W), .second, .val (.long F), .second, .val (.ref b3), .val (.long W), .second, .val (.int (1 : Int32)), .unset] [])) rfl (hb hby at_100) (by decide) (by decide)
  obtain ⟨b9, g9⟩ : ∃ z, z = T7.heap.size := ⟨_, rfl⟩
  rw [← g9] at A9 D9 st9
  have g_b9 : n0 ≤ b9 := Nat.le_trans Z7 (Nat.le_of_eq g9.symm)
  have ne_b3_b9 : b3 ≠ b9 := Nat.ne_of_lt (Nat.lt_of_lt_of_le E4_h7.lt (Nat.le_of_eq g9.symm))
  have ne_b6_b9 : b6 ≠ b9 := Nat.ne_of_lt (Nat.lt_of_lt_of_le E7.lt (Nat.le_of_eq g9.symm))
  have E4_h9 := (E4_h7.ext E9)
  have Fa4_h9 := (Fa4_h7.ext E9)
  have Fb4_h9 := (Fb4_h7.ext E9)
  have E7_h9 := (E7.ext E9)
  have Fa7_h9 := (Fa7.ext E9)
  have Fb7_h9 := (Fb7.ext E9)
  have Z9 := (Nat.le_trans Z7 E9.1)
  have F_whole_b9 : Fld Z h9 b9 "com/example/rate_gate/rategate/algorithm/Seconds" "whole" "J" (.long (0 : Int64)) := D9 (Or.inr (hw _ (List.mem_of_getElem? (i := 16) rfl))) (ty := .long) (by decide)
  have F_fraction_b9 : Fld Z h9 b9 "com/example/rate_gate/rategate/algorithm/Seconds" "fraction" "J" (.long (0 : Int64)) := D9 (Or.inr (hw _ (List.mem_of_getElem? (i := 18) rfl))) (ty := .long) (by decide)
  obtain ⟨_, _, ⟨T10, L10, k10, n10⟩, -, X10, ⟨Lc10, hQ10, l10, y10, z10⟩, st10⟩ := X9.specialBack hx (y := (⟨"com/example/rate_gate/rategate/algorithm/Seconds", "<init>", "(JJ)V"⟩ : MethodName)) rfl hown (mvT hZ (hw _ (List.mem_of_getElem? (i := 4) rfl))) (mvT hZ (hw _ (List.mem_of_getElem? (i := 5) rfl))) (mvT hZ (hw _ (List.mem_of_getElem? (i := 6) rfl))) (by decide) (backOf (W := 1) (rm1 l Z a0 hw [] b9 (W - (1 : Int64)) (0 : Int64) (.long (0 : Int64)) (.long (0 : Int64)) h9 n0 Z9 g_b9 A9 F_whole_b9 F_fraction_b9 (own_d0 hW0 hz)) hZ (hw _ (List.mem_of_getElem? (i := 6) rfl)) (hw _ (List.mem_of_getElem? (i := 3) rfl)) (by decide) (by decide)) (g := (mkF m 109 #[.val (.long q1), .second, .val (.long q2), .second, .val (.int p3), .val (.long W), .second, .val (.long F), .second, .val (.ref b3), .val (.long W), .second, .val (.int (1 : Int32)), .unset] [(.long (0 : Int64)), (.long (W - (1 : Int64))), (.ref b9), (.ref b9)])) rfl (by rw [hml]; rfl) (Steps.refl _) (a := b9) (argsL := [(.long (W - (1 : Int64))), (.long (0 : Int64))]) (rest := [(.ref b9)]) (lenOf pd_2 rfl) rfl (by show 2 * 0 + _ ≤ _; exact Nat.le_of_eq rfl) (hb hby at_109) (fun _ _ => ⟨rfl, e9, (by decide : 3 + 0 ≤ _), (by decide : 6 + 0 ≤ _)⟩)
  dsimp only [Pt.U, Pt.locs, Pt.cells, Pt.slots] at X10 l10 y10 z10 st10 hQ10
  subst l10 y10 z10
  obtain ⟨rfl, N10q, K10, E10, Fa10, Fb10⟩ := hQ10
  have N10 := Fr.app N8 N10q
  have E4_h10 := (E4_h9.keep K10)
  have Fa4_h10 := (Fa4_h9.keep K10 (by simp only [List.mem_cons, List.not_mem_nil, or_false, not_or]; exact ne_b3_b9))
  have Fb4_h10 := (Fb4_h9.keep K10 (by simp only [List.mem_cons, List.not_mem_nil, or_false, not_or]; exact ne_b3_b9))
  have E7_h10 := (E7_h9.keep K10)
  have Fa7_h10 := (Fa7_h9.keep K10 (by simp only [List.mem_cons, List.not_mem_nil, or_false, not_or]; exact ne_b6_b9))
  have Fb7_h10 := (Fb7_h9.keep K10 (by simp only [List.mem_cons, List.not_mem_nil, or_false, not_or]; exact ne_b6_b9))
  have A9_h10 := (A9.keep K10)
  have Z10 := (Nat.le_trans Z9 K10.1)
  obtain ⟨cq11, kq11, q11a, q11b, q11c⟩ := isOf hZ rfl E10
  obtain ⟨_, _, ⟨T11, L11, k11, n11⟩, -, X11, ⟨Lc11, hQ11, l11, y11, z11⟩, st11⟩ := X10.virtualBack hx (y := (⟨"com/example/rate_gate/rategate/algorithm/Seconds", "compareTo", "(Lcom/example/rate_gate/rategate/algorithm/Seconds;)I"⟩ : MethodName)) (z := (⟨"com/example/rate_gate/rategate/algorithm/Seconds", "compareTo", "(Lcom/example/rate_gate/rategate/algorithm/Seconds;)I"⟩ : MethodName)) hown (mvT hZ (hw _ (List.mem_of_getElem? (i := 24) rfl))) (mvT hZ (hw _ (List.mem_of_getElem? (i := 25) rfl))) (notFace_of_selects (args := #[]) (mvT hZ (hw _ (List.mem_of_getElem? (i := 27) rfl)))) (mvT hZ (hw _ (List.mem_of_getElem? (i := 27) rfl))) (mvT hZ (hw _ (List.mem_of_getElem? (i := 26) rfl))) (by decide) (backOf (W := 0) (rm5n l Z a0 hw [] b9 b3 (W - (1 : Int64)) (0 : Int64) W F (-1 : Int32) T10.heap n0 Z10 Fa10 Fb10 Fa4_h10 Fb4_h10 (own_dn hW0 hz).1 (own_dn hW0 hz).2) hZ (hw _ (List.mem_of_getElem? (i := 28) rfl)) (hw _ (List.mem_of_getElem? (i := 3) rfl)) (by decide) (by decide)) q11a q11c (g := (mkF m 114 #[.val (.long q1), .second, .val (.long q2), .second, .val (.int p3), .val (.long W), .second, .val (.long F), .second, .val (.ref b3), .val (.long W), .second, .val (.int (1 : Int32)), .unset] [(.ref b3), (.ref b9)])) rfl (by rw [hml]; rfl) (Steps.refl _) (argsL := [(.ref b3)]) (rest := []) (lenOf pd_4 rfl) rfl (by show 2 * 0 + _ ≤ _; exact Nat.le_of_eq rfl) (hb hby at_114) (fun _ _ => ⟨rfl, rfl, (by decide : 3 + 0 ≤ _), (by decide : 6 + 0 ≤ _)⟩)
  dsimp only [Pt.U, Pt.locs, Pt.cells, Pt.slots] at X11 l11 y11 z11 st11 hQ11
  subst l11 y11 z11
  obtain ⟨rfl, N11q, e11⟩ := hQ11
  have N11 := Fr.app N10 N11q
  obtain ⟨fs, hr, hrun, hended, hW, hsame⟩ := X11.leave (v := some (.int (1 : Int32))) (fun h => by rw [Bd.returns] at h; cases h)
  refine ⟨_, _, pre0 _ ?_, hrun, hended, _, _, rfl, ?_, ⟨_, rfl⟩, hW, hsame.mono (by decide) (by decide)⟩
  · show Steps p.tables e below (s₁.setTop (mkF m 0 #[.val (.long q1), .second, .val (.long q2), .second, .val (.int p3), .unset, .unset, .unset, .unset, .unset, .unset, .unset, .unset, .unset] [])) _
    refine XS.lloadN X0.here hx rfl (hb hby at_0) rfl ?_
    show Steps p.tables e below (s₁.setTop (mkF m 1 #[.val (.long q1), .second, .val (.long q2), .second, .val (.int p3), .unset, .unset, .unset, .unset, .unset, .unset, .unset, .unset, .unset] [(.long q1)])) _
    refine X0.ldc2Long hx hown (mvT hZ (hw _ (List.mem_of_getElem? (i := 0) rfl))) (g := (mkF m 1 #[.val (.long q1), .second, .val (.long q2), .second, .val (.int p3), .unset, .unset, .unset, .unset, .unset, .unset, .unset, .unset, .unset] [(.long q1)])) rfl (hb hby at_1) _ ?_
    show Steps p.tables e below (s₁.setTop (mkF m 4 #[.val (.long q1), .second, .val (.long q2), .second, .val (.int p3), .unset, .unset, .unset, .unset, .unset, .unset, .unset, .unset, .unset] [(.long (9223372036854775807 : Int64)), (.long q1)])) _
    refine XS.land X0.here hx rfl (hb hby at_4) rfl ?_
    show Steps p.tables e below (s₁.setTop (mkF m 5 #[.val (.long q1), .second, .val (.long q2), .second, .val (.int p3), .unset, .unset, .unset, .unset, .unset, .unset, .unset, .unset, .unset] [(.long (q1 &&& (9223372036854775807 : Int64)))])) _
    refine XS.lstore X0.here hx rfl (hb hby at_5) rfl (l' := #[.val (.long q1), .second, .val (.long q2), .second, .val (.int p3), .val (.long (q1 &&& (9223372036854775807 : Int64))), .second, .unset, .unset, .unset, .unset, .unset, .unset, .unset]) rfl ?_
    show Steps p.tables e below (s₁.setTop (mkF m 7 #[.val (.long q1), .second, .val (.long q2), .second, .val (.int p3), .val (.long (q1 &&& (9223372036854775807 : Int64))), .second, .unset, .unset, .unset, .unset, .unset, .unset, .unset] [])) _
    refine stW _ ?_
    show Steps p.tables e below (s₁.setTop (mkF m 7 #[.val (.long q1), .second, .val (.long q2), .second, .val (.int p3), .val (.long W), .second, .unset, .unset, .unset, .unset, .unset, .unset, .unset] [])) _
    refine st1 _ ?_
    show Steps p.tables e below (s₁.setTop (mkF m 19 #[.val (.long q1), .second, .val (.long q2), .second, .val (.int p3), .val (.long W), .second, .unset, .unset, .unset, .unset, .unset, .unset, .unset] [(.long F)])) _
    refine XS.lstore X0.here hx rfl (hb hby at_19) rfl (l' := #[.val (.long q1), .second, .val (.long q2), .second, .val (.int p3), .val (.long W), .second, .val (.long F), .second, .unset, .unset, .unset, .unset, .unset]) rfl ?_
    show Steps p.tables e below (s₁.setTop (mkF m 21 #[.val (.long q1), .second, .val (.long q2), .second, .val (.int p3), .val (.long W), .second, .val (.long F), .second, .unset, .unset, .unset, .unset, .unset] [])) _
    refine st2 _ ?_
    show Steps p.tables e below (s₁.setTop (mkF m 39 #[.val (.long q1), .second, .val (.long q2), .second, .val (.int p3), .val (.long W), .second, .val (.long F), .second, .unset, .unset, .unset, .unset, .unset] [])) _
    refine st3 _ ?_
    show Steps p.tables e below (T3.setTop (mkF m 42 #[.val (.long q1), .second, .val (.long q2), .second, .val (.int p3), .val (.long W), .second, .val (.long F), .second, .unset, .unset, .unset, .unset, .unset] [(.ref b3)])) _
    refine XS.dup X3.here hx rfl (hb hby at_42) rfl rfl ?_
    show Steps p.tables e below (T3.setTop (mkF m 43 #[.val (.long q1), .second, .val (.long q2), .second, .val (.int p3), .val (.long W), .second, .val (.long F), .second, .unset, .unset, .unset, .unset, .unset] [(.ref b3), (.ref b3)])) _
    refine XS.lload X3.here hx rfl (hb hby at_43) rfl ?_
    show Steps p.tables e below (T3.setTop (mkF m 45 #[.val (.long q1), .second, .val (.long q2), .second, .val (.int p3), .val (.long W), .second, .val (.long F), .second, .unset, .unset, .unset, .unset, .unset] [(.long W), (.ref b3), (.ref b3)])) _
    refine XS.lload X3.here hx rfl (hb hby at_45) rfl ?_
    show Steps p.tables e below (T3.setTop (mkF m 47 #[.val (.long q1), .second, .val (.long q2), .second, .val (.int p3), .val (.long W), .second, .val (.long F), .second, .unset, .unset, .unset, .unset, .unset] [(.long F), (.long W), (.ref b3), (.ref b3)])) _
    refine st4.trans ?_
    show Steps p.tables e below (T4.setTop (mkF m 50 #[.val (.long q1), .second, .val (.long q2), .second, .val (.int p3), .val (.long W), .second, .val (.long F), .second, .unset, .unset, .unset, .unset, .unset] [(.ref b3)])) _
    refine XS.astore X4.here hx rfl (hb hby at_50) rfl rfl (l' := #[.val (.long q1), .second, .val (.long q2), .second, .val (.int p3), .val (.long W), .second, .val (.long F), .second, .val (.ref b3), .unset, .unset, .unset, .unset]) rfl ?_
    show Steps p.tables e below (T4.setTop (mkF m 52 #[.val (.long q1), .second, .val (.long q2), .second, .val (.int p3), .val (.long W), .second, .val (.long F), .second, .val (.ref b3), .unset, .unset, .unset, .unset] [])) _
    refine XS.aload X4.here hx rfl (hb hby at_52) rfl rfl ?_
    show Steps p.tables e below (T4.setTop (mkF m 54 #[.val (.long q1), .second, .val (.long q2), .second, .val (.int p3), .val (.long W), .second, .val (.long F), .second, .val (.ref b3), .unset, .unset, .unset, .unset] [(.ref b3)])) _
    refine st5.trans ?_
    show Steps p.tables e below (T5.setTop (mkF m 57 #[.val (.long q1), .second, .val (.long q2), .second, .val (.int p3), .val (.long W), .second, .val (.long F), .second, .val (.ref b3), .unset, .unset, .unset, .unset] [(.long W)])) _
    refine XS.lstore X5.here hx rfl (hb hby at_57) rfl (l' := #[.val (.long q1), .second, .val (.long q2), .second, .val (.int p3), .val (.long W), .second, .val (.long F), .second, .val (.ref b3), .val (.long W), .second, .unset, .unset]) rfl ?_
    show Steps p.tables e below (T5.setTop (mkF m 59 #[.val (.long q1), .second, .val (.long q2), .second, .val (.int p3), .val (.long W), .second, .val (.long F), .second, .val (.ref b3), .val (.long W), .second, .unset, .unset] [])) _
    refine XS.lload X5.here hx rfl (hb hby at_59) rfl ?_
    show Steps p.tables e below (T5.setTop (mkF m 61 #[.val (.long q1), .second, .val (.long q2), .second, .val (.int p3), .val (.long W), .second, .val (.long F), .second, .val (.ref b3), .val (.long W), .second, .unset, .unset] [(.long W)])) _
    refine XS.lconst X5.here hx rfl (hb hby at_61) ?_
    show Steps p.tables e below (T5.setTop (mkF m 62 #[.val (.long q1), .second, .val (.long q2), .second, .val (.int p3), .val (.long W), .second, .val (.long F), .second, .val (.ref b3), .val (.long W), .second, .unset, .unset] [(.long (0 : Int64)), (.long W)])) _
    refine XS.lcmp X5.here hx rfl (hb hby at_62) rfl ?_
    show Steps p.tables e below (T5.setTop (mkF m 63 #[.val (.long q1), .second, .val (.long q2), .second, .val (.int p3), .val (.long W), .second, .val (.long F), .second, .val (.ref b3), .val (.long W), .second, .unset, .unset] [(.int (lcmpW W (0 : Int64)))])) _
    refine XS.ifYes X5.here hx rfl (pc0 := 63) (pc' := 68) rfl (hb hby at_63) rfl ((if0 _ _).trans (flt (fun q => hW0 ((lw_lt _ _).mp q) : ¬ ((lcmpW W (0 : Int64)) < (0 : Int32)))).2.1) (by decide) (by decide) ?_
    show Steps p.tables e below (T5.setTop (mkF m 68 #[.val (.long q1), .second, .val (.long q2), .second, .val (.int p3), .val (.long W), .second, .val (.long F), .second, .val (.ref b3), .val (.long W), .second, .unset, .unset] [])) _
    refine st6 _ ?_
    show Steps p.tables e below (T6.setTop (mkF m 71 #[.val (.long q1), .second, .val (.long q2), .second, .val (.int p3), .val (.long W), .second, .val (.long F), .second, .val (.ref b3), .val (.long W), .second, .unset, .unset] [(.ref b6)])) _
    refine XS.dup X6.here hx rfl (hb hby at_71) rfl rfl ?_
    show Steps p.tables e below (T6.setTop (mkF m 72 #[.val (.long q1), .second, .val (.long q2), .second, .val (.int p3), .val (.long W), .second, .val (.long F), .second, .val (.ref b3), .val (.long W), .second, .unset, .unset] [(.ref b6), (.ref b6)])) _
    refine XS.lload X6.here hx rfl (hb hby at_72) rfl ?_
    show Steps p.tables e below (T6.setTop (mkF m 74 #[.val (.long q1), .second, .val (.long q2), .second, .val (.int p3), .val (.long W), .second, .val (.long F), .second, .val (.ref b3), .val (.long W), .second, .unset, .unset] [(.long W), (.ref b6), (.ref b6)])) _
    refine XS.lconst X6.here hx rfl (hb hby at_74) ?_
    show Steps p.tables e below (T6.setTop (mkF m 75 #[.val (.long q1), .second, .val (.long q2), .second, .val (.int p3), .val (.long W), .second, .val (.long F), .second, .val (.ref b3), .val (.long W), .second, .unset, .unset] [(.long (0 : Int64)), (.long W), (.ref b6), (.ref b6)])) _
    refine st7.trans ?_
    show Steps p.tables e below (T7.setTop (mkF m 78 #[.val (.long q1), .second, .val (.long q2), .second, .val (.int p3), .val (.long W), .second, .val (.long F), .second, .val (.ref b3), .val (.long W), .second, .unset, .unset] [(.ref b6)])) _
    refine XS.aload X7.here hx rfl (hb hby at_78) rfl rfl ?_
    show Steps p.tables e below (T7.setTop (mkF m 80 #[.val (.long q1), .second, .val (.long q2), .second, .val (.int p3), .val (.long W), .second, .val (.long F), .second, .val (.ref b3), .val (.long W), .second, .unset, .unset] [(.ref b3), (.ref b6)])) _
    refine st8.trans ?_
    show Steps p.tables e below (T8.setTop (mkF m 83 #[.val (.long q1), .second, .val (.long q2), .second, .val (.int p3), .val (.long W), .second, .val (.long F), .second, .val (.ref b3), .val (.long W), .second, .unset, .unset] [(.int (0 : Int32))])) _
    refine XS.ifNo X8.here hx rfl (hb hby at_83) rfl ((if0 _ _).trans (flt (by decide : ¬ ((0 : Int32) < (0 : Int32)))).1) ?_
    show Steps p.tables e below (T8.setTop (mkF m 86 #[.val (.long q1), .second, .val (.long q2), .second, .val (.int p3), .val (.long W), .second, .val (.long F), .second, .val (.ref b3), .val (.long W), .second, .unset, .unset] [])) _
    refine XS.iconst X8.here hx rfl (hb hby at_86) ?_
    show Steps p.tables e below (T8.setTop (mkF m 87 #[.val (.long q1), .second, .val (.long q2), .second, .val (.int p3), .val (.long W), .second, .val (.long F), .second, .val (.ref b3), .val (.long W), .second, .unset, .unset] [(.int (1 : Int32))])) _
    refine XS.goto X8.here hx rfl (pc0 := 87) (pc' := 91) rfl (hb hby at_87) (by decide) (by decide) ?_
    show Steps p.tables e below (T8.setTop (mkF m 91 #[.val (.long q1), .second, .val (.long q2), .second, .val (.int p3), .val (.long W), .second, .val (.long F), .second, .val (.ref b3), .val (.long W), .second, .unset, .unset] [(.int (1 : Int32))])) _
    refine XS.istore X8.here hx rfl (hb hby at_91) rfl (l' := #[.val (.long q1), .second, .val (.long q2), .second, .val (.int p3), .val (.long W), .second, .val (.long F), .second, .val (.ref b3), .val (.long W), .second, .val (.int (1 : Int32)), .unset]) rfl ?_
    show Steps p.tables e below (T8.setTop (mkF m 93 #[.val (.long q1), .second, .val (.long q2), .second, .val (.int p3), .val (.long W), .second, .val (.long F), .second, .val (.ref b3), .val (.long W), .second, .val (.int (1 : Int32)), .unset] [])) _
    refine XS.lload X8.here hx rfl (hb hby at_93) rfl ?_
    show Steps p.tables e below (T8.setTop (mkF m 95 #[.val (.long q1), .second, .val (.long q2), .second, .val (.int p3), .val (.long W), .second, .val (.long F), .second, .val (.ref b3), .val (.long W), .second, .val (.int (1 : Int32)), .unset] [(.long W)])) _
    refine XS.lconst X8.here hx rfl (hb hby at_95) ?_
    show Steps p.tables e below (T8.setTop (mkF m 96 #[.val (.long q1), .second, .val (.long q2), .second, .val (.int p3), .val (.long W), .second, .val (.long F), .second, .val (.ref b3), .val (.long W), .second, .val (.int (1 : Int32)), .unset] [(.long (0 : Int64)), (.long W)])) _
    refine XS.lcmp X8.here hx rfl (hb hby at_96) rfl ?_
    show Steps p.tables e below (T8.setTop (mkF m 97 #[.val (.long q1), .second, .val (.long q2), .second, .val (.int p3), .val (.long W), .second, .val (.long F), .second, .val (.ref b3), .val (.long W), .second, .val (.int (1 : Int32)), .unset] [(.int (lcmpW W (0 : Int64)))])) _
    refine XS.ifNo X8.here hx rfl (hb hby at_97) rfl ((if0 _ _).trans (feq (fun q => hz ((lw_eq _ _).mp q) : ¬ ((lcmpW W (0 : Int64)) = (0 : Int32)))).1) ?_
    show Steps p.tables e below (T8.setTop (mkF m 100 #[.val (.long q1), .second, .val (.long q2), .second, .val (.int p3), .val (.long W), .second, .val (.long F), .second, .val (.ref b3), .val (.long W), .second, .val (.int (1 : Int32)), .unset] [])) _
    refine st9 _ ?_
    show Steps p.tables e below (T9.setTop (mkF m 103 #[.val (.long q1), .second, .val (.long q2), .second, .val (.int p3), .val (.long W), .second, .val (.long F), .second, .val (.ref b3), .val (.long W), .second, .val (.int (1 : Int32)), .unset] [(.ref b9)])) _
    refine XS.dup X9.here hx rfl (hb hby at_103) rfl rfl ?_
    show Steps p.tables e below (T9.setTop (mkF m 104 #[.val (.long q1), .second, .val (.long q2), .second, .val (.int p3), .val (.long W), .second, .val (.long F), .second, .val (.ref b3), .val (.long W), .second, .val (.int (1 : Int32)), .unset] [(.ref b9), (.ref b9)])) _
    refine XS.lload X9.here hx rfl (hb hby at_104) rfl ?_
    show Steps p.tables e below (T9.setTop (mkF m 106 #[.val (.long q1), .second, .val (.long q2), .second, .val (.int p3), .val (.long W), .second, .val (.long F), .second, .val (.ref b3), .val (.long W), .second, .val (.int (1 : Int32)), .unset] [(.long W), (.ref b9), (.ref b9)])) _
    refine XS.lconst X9.here hx rfl (hb hby at_106) ?_
    show Steps p.tables e below (T9.setTop (mkF m 107 #[.val (.long q1), .second, .val (.long q2), .second, .val (.int p3), .val (.long W), .second, .val (.long F), .second, .val (.ref b3), .val (.long W), .second, .val (.int (1 : Int32)), .unset] [(.long (1 : Int64)), (.long W), (.ref b9), (.ref b9)])) _
    refine XS.lsub X9.here hx rfl (hb hby at_107) rfl ?_
    show Steps p.tables e below (T9.setTop (mkF m 108 #[.val (.long q1), .second, .val (.long q2), .second, .val (.int p3), .val (.long W), .second, .val (.long F), .second, .val (.ref b3), .val (.long W), .second, .val (.int (1 : Int32)), .unset] [(.long (W - (1 : Int64))), (.ref b9), (.ref b9)])) _
    refine XS.lconst X9.here hx rfl (hb hby at_108) ?_
    show Steps p.tables e below (T9.setTop (mkF m 109 #[.val (.long q1), .second, .val (.long q2), .second, .val (.int p3), .val (.long W), .second, .val (.long F), .second, .val (.ref b3), .val (.long W), .second, .val (.int (1 : Int32)), .unset] [(.long (0 : Int64)), (.long (W - (1 : Int64))), (.ref b9), (.ref b9)])) _
    refine st10.trans ?_
    show Steps p.tables e below (T10.setTop (mkF m 112 #[.val (.long q1), .second, .val (.long q2), .second, .val (.int p3), .val (.long W), .second, .val (.long F), .second, .val (.ref b3), .val (.long W), .second, .val (.int (1 : Int32)), .unset] [(.ref b9)])) _
    refine XS.aload X10.here hx rfl (hb hby at_112) rfl rfl ?_
    show Steps p.tables e below (T10.setTop (mkF m 114 #[.val (.long q1), .second, .val (.long q2), .second, .val (.int p3), .val (.long W), .second, .val (.long F), .second, .val (.ref b3), .val (.long W), .second, .val (.int (1 : Int32)), .unset] [(.ref b3), (.ref b9)])) _
    refine st11.trans ?_
    show Steps p.tables e below (T11.setTop (mkF m 117 #[.val (.long q1), .second, .val (.long q2), .second, .val (.int p3), .val (.long W), .second, .val (.long F), .second, .val (.ref b3), .val (.long W), .second, .val (.int (1 : Int32)), .unset] [(.int (-1 : Int32))])) _
    refine XS.ifNo X11.here hx rfl (hb hby at_117) rfl ((if0 _ _).trans (tlt (by decide : (-1 : Int32) < (0 : Int32))).2.1) ?_
    show Steps p.tables e below (T11.setTop (mkF m 120 #[.val (.long q1), .second, .val (.long q2), .second, .val (.int p3), .val (.long W), .second, .val (.long F), .second, .val (.ref b3), .val (.long W), .second, .val (.int (1 : Int32)), .unset] [])) _
    refine XS.iconst X11.here hx rfl (hb hby at_120) ?_
    show Steps p.tables e below (T11.setTop (mkF m 121 #[.val (.long q1), .second, .val (.long q2), .second, .val (.int p3), .val (.long W), .second, .val (.long F), .second, .val (.ref b3), .val (.long W), .second, .val (.int (1 : Int32)), .unset] [(.int (1 : Int32))])) _
    refine XS.goto X11.here hx rfl (pc0 := 121) (pc' := 125) rfl (hb hby at_121) (by decide) (by decide) ?_
    show Steps p.tables e below (T11.setTop (mkF m 125 #[.val (.long q1), .second, .val (.long q2), .second, .val (.int p3), .val (.long W), .second, .val (.long F), .second, .val (.ref b3), .val (.long W), .second, .val (.int (1 : Int32)), .unset] [(.int (1 : Int32))])) _
    refine XS.istore X11.here hx rfl (hb hby at_125) rfl (l' := #[.val (.long q1), .second, .val (.long q2), .second, .val (.int p3), .val (.long W), .second, .val (.long F), .second, .val (.ref b3), .val (.long W), .second, .val (.int (1 : Int32)), .val (.int (1 : Int32))]) rfl ?_
    show Steps p.tables e below (T11.setTop (mkF m 127 #[.val (.long q1), .second, .val (.long q2), .second, .val (.int p3), .val (.long W), .second, .val (.long F), .second, .val (.ref b3), .val (.long W), .second, .val (.int (1 : Int32)), .val (.int (1 : Int32))] [])) _
    refine XS.iload X11.here hx rfl (hb hby at_127) rfl ?_
    show Steps p.tables e below (T11.setTop (mkF m 129 #[.val (.long q1), .second, .val (.long q2), .second, .val (.int p3), .val (.long W), .second, .val (.long F), .second, .val (.ref b3), .val (.long W), .second, .val (.int (1 : Int32)), .val (.int (1 : Int32))] [(.int (1 : Int32))])) _
    refine XS.ifNo X11.here hx rfl (hb hby at_129) rfl ((if0 _ _).trans (feq (by decide : ¬ ((1 : Int32) = (0 : Int32)))).1) ?_
    show Steps p.tables e below (T11.setTop (mkF m 132 #[.val (.long q1), .second, .val (.long q2), .second, .val (.int p3), .val (.long W), .second, .val (.long F), .second, .val (.ref b3), .val (.long W), .second, .val (.int (1 : Int32)), .val (.int (1 : Int32))] [])) _
    refine XS.iload X11.here hx rfl (hb hby at_132) rfl ?_
    show Steps p.tables e below (T11.setTop (mkF m 134 #[.val (.long q1), .second, .val (.long q2), .second, .val (.int p3), .val (.long W), .second, .val (.long F), .second, .val (.ref b3), .val (.long W), .second, .val (.int (1 : Int32)), .val (.int (1 : Int32))] [(.int (1 : Int32))])) _
    refine XS.ifNo X11.here hx rfl (hb hby at_134) rfl ((if0 _ _).trans (feq (by decide : ¬ ((1 : Int32) = (0 : Int32)))).1) ?_
    show Steps p.tables e below (T11.setTop (mkF m 137 #[.val (.long q1), .second, .val (.long q2), .second, .val (.int p3), .val (.long W), .second, .val (.long F), .second, .val (.ref b3), .val (.long W), .second, .val (.int (1 : Int32)), .val (.int (1 : Int32))] [])) _
    refine XS.iconst X11.here hx rfl (hb hby at_137) ?_
    show Steps p.tables e below (T11.setTop (mkF m 138 #[.val (.long q1), .second, .val (.long q2), .second, .val (.int p3), .val (.long W), .second, .val (.long F), .second, .val (.ref b3), .val (.long W), .second, .val (.int (1 : Int32)), .val (.int (1 : Int32))] [(.int (1 : Int32))])) _
    refine XS.goto X11.here hx rfl (pc0 := 138) (pc' := 142) rfl (hb hby at_138) (by decide) (by decide) ?_
    show Steps p.tables e below (T11.setTop (mkF m 142 #[.val (.long q1), .second, .val (.long q2), .second, .val (.int p3), .val (.long W), .second, .val (.long F), .second, .val (.ref b3), .val (.long W), .second, .val (.int (1 : Int32)), .val (.int (1 : Int32))] [(.int (1 : Int32))])) _
    exact retN X11 hx (t := .boolean) Bd.returns (by simp) (hb hby at_142) hr
  · show Q0D Z q1 q2 p3  h0 n0 _ T11.heap _
    rw [e11]
    exact ⟨rfl, N11⟩

theorem ef_0C (m : MethodId) (x0 : Int64) (x1 : Int64) (x2 : Int32) : entryFrame m #[(.long x0), (.long x1), (.int x2)] maxLocals = mkF m 0 #[.val (.long x0), .second, .val (.long x1), .second, .val (.int x2), .unset, .unset, .unset, .unset, .unset, .unset, .unset, .unset, .unset] [] := by first | (simp [entryFrame, mkF, argsToLocals, Value.category, maxLocals]; done) | rfl
def Q0C (Z : State) (q1 : Int64) (q2 : Int64) (p3 : Int32)  (h0 : Heap) (n0 : Nat) (v : Option Value) (h : Heap) (L : List Loc) : Prop := v = some (.int (1 : Int32)) ∧ Fr n0 L
set_option maxRecDepth 65536 in
set_option maxHeartbeats 40000000 in
theorem rm0C (l : Launch) (Z : State) (a0 : Array Value) (hw : ∀ d ∈ tables_1, d.before a0 Z = true) (ws : List Jvm.Cond) (q1 : Int64) (q2 : Int64) (p3 : Int32)  (h0 : Heap) (n0 : Nat) (Z0 : n0 ≤ h0.size) (hw1 : ¬ (q1 &&& (9223372036854775807 : Int64)) = (9223372036854775807 : Int64)) (hf : ¬ (if (p3 &&& (1 : Int32)) = (0 : Int32) then (0 : Int64) else q2) = (0 : Int64)) :
    MetFree l x (head1 (Jvm.Cond.code x code maxLocals ret :: ws) room_1) (fun a U => a = #[(.long q1), (.long q2), (.int p3)] ∧ Z.Warmed39 U.vm ∧ U.heap = h0) (fun _ _ _ _ _ => True) (fun _ U o U' => ∃ v L, o = .returned v ∧ Q0C Z q1 q2 p3  h0 n0 v U'.heap L ∧ FrameEnd U o U' L room_1.cells room_1.slots) := by
  refine MetFree.of_bodySF (plainFor_of_name pn_4) hisR ?_
  intro p e s m args below meth c s₁ Bd hml0 hP hK
  obtain ⟨rfl, hZ, hh⟩ := hP
  have hx := Bd.exec
  have hby := Bd.bytes
  have hml : c.maxLocals = 14 := hml0
  have hown : s.vm.findClass "com/example/rate_gate/rategate/algorithm/SecondsRoundedUpPinLaw" = some m.cls := findClass_of_methodNamed Bd.named
  have hnm := (name_of_methodNamed Bd.named Bd.method).1
  have X0 : Stand p l e room_1 s m #[(.long q1), (.long q2), (.int p3)] below meth c s₁ [] 0 0 := Stand.of_body Bd
  have e0 : s₁.heap = h0 := by rw [← hh, Bd.state]; rfl
  have N0 := Fr.nil n0
  have pre0 : ∀ t, Steps p.tables e below (s₁.setTop (mkF m 0 #[.val (.long q1), .second, .val (.long q2), .second, .val (.int p3), .unset, .unset, .unset, .unset, .unset, .unset, .unset, .unset, .unset] [])) t → Steps p.tables e below (s₁.setTop (entryFrame m #[(.long q1), (.long q2), (.int p3)] maxLocals)) t := fun t k => castTop (ef_0C m q1 q2 p3) k
  obtain ⟨W, hW⟩ : ∃ z : Int64, z = (q1 &&& (9223372036854775807 : Int64)) := ⟨_, rfl⟩
  have stW : ∀ t, Steps p.tables e below (s₁.setTop (mkF m 7 #[.val (.long q1), .second, .val (.long q2), .second, .val (.int p3), .val (.long W), .second, .unset, .unset, .unset, .unset, .unset, .unset, .unset] [])) t → Steps p.tables e below (s₁.setTop (mkF m 7 #[.val (.long q1), .second, .val (.long q2), .second, .val (.int p3), .val (.long (q1 &&& (9223372036854775807 : Int64))), .second, .unset, .unset, .unset, .unset, .unset, .unset, .unset] [])) t := by subst hW; exact fun _ k => k
  obtain ⟨F, hF⟩ : ∃ z : Int64, z = (if (p3 &&& (1 : Int32)) = (0 : Int32) then (0 : Int64) else q2) := ⟨_, rfl⟩
  have st1 : ∀ t, Steps p.tables e below (s₁.setTop (mkF m 19 #[.val (.long q1), .second, .val (.long q2), .second, .val (.int p3), .val (.long W), .second, .unset, .unset, .unset, .unset, .unset, .unset, .unset] [(.long F)])) t → Steps p.tables e below (s₁.setTop (mkF m 7 #[.val (.long q1), .second, .val (.long q2), .second, .val (.int p3), .val (.long W), .second, .unset, .unset, .unset, .unset, .unset, .unset, .unset] [])) t := by
    intro t k
    by_cases hcs1 : (p3 &&& (1 : Int32)) = (0 : Int32)
    · skip
      rw [if_pos hcs1] at hF
      rw [hF] at k
      show Steps p.tables e below (s₁.setTop (mkF m 7 #[.val (.long q1), .second, .val (.long q2), .second, .val (.int p3), .val (.long W), .second, .unset, .unset, .unset, .unset, .unset, .unset, .unset] [])) _
      refine XS.iload X0.here hx rfl (hb hby at_7) rfl ?_
      show Steps p.tables e below (s₁.setTop (mkF m 9 #[.val (.long q1), .second, .val (.long q2), .second, .val (.int p3), .val (.long W), .second, .unset, .unset, .unset, .unset, .unset, .unset, .unset] [(.int p3)])) _
      refine XS.iconst X0.here hx rfl (hb hby at_9) ?_
      show Steps p.tables e below (s₁.setTop (mkF m 10 #[.val (.long q1), .second, .val (.long q2), .second, .val (.int p3), .val (.long W), .second, .unset, .unset, .unset, .unset, .unset, .unset, .unset] [(.int (1 : Int32)), (.int p3)])) _
      refine XS.iand X0.here hx rfl (hb hby at_10) rfl ?_
      show Steps p.tables e below (s₁.setTop (mkF m 11 #[.val (.long q1), .second, .val (.long q2), .second, .val (.int p3), .val (.long W), .second, .unset, .unset, .unset, .unset, .unset, .unset, .unset] [(.int (p3 &&& (1 : Int32)))])) _
      refine XS.ifNo X0.here hx rfl (hb hby at_11) rfl ((if0 _ _).trans (teq hcs1).2) ?_
      show Steps p.tables e below (s₁.setTop (mkF m 14 #[.val (.long q1), .second, .val (.long q2), .second, .val (.int p3), .val (.long W), .second, .unset, .unset, .unset, .unset, .unset, .unset, .unset] [])) _
      refine XS.lconst X0.here hx rfl (hb hby at_14) ?_
      show Steps p.tables e below (s₁.setTop (mkF m 15 #[.val (.long q1), .second, .val (.long q2), .second, .val (.int p3), .val (.long W), .second, .unset, .unset, .unset, .unset, .unset, .unset, .unset] [(.long (0 : Int64))])) _
      refine XS.goto X0.here hx rfl (pc0 := 15) (pc' := 19) rfl (hb hby at_15) (by decide) (by decide) ?_
      exact k
    · skip
      rw [if_neg hcs1] at hF
      rw [hF] at k
      show Steps p.tables e below (s₁.setTop (mkF m 7 #[.val (.long q1), .second, .val (.long q2), .second, .val (.int p3), .val (.long W), .second, .unset, .unset, .unset, .unset, .unset, .unset, .unset] [])) _
      refine XS.iload X0.here hx rfl (hb hby at_7) rfl ?_
      show Steps p.tables e below (s₁.setTop (mkF m 9 #[.val (.long q1), .second, .val (.long q2), .second, .val (.int p3), .val (.long W), .second, .unset, .unset, .unset, .unset, .unset, .unset, .unset] [(.int p3)])) _
      refine XS.iconst X0.here hx rfl (hb hby at_9) ?_
      show Steps p.tables e below (s₁.setTop (mkF m 10 #[.val (.long q1), .second, .val (.long q2), .second, .val (.int p3), .val (.long W), .second, .unset, .unset, .unset, .unset, .unset, .unset, .unset] [(.int (1 : Int32)), (.int p3)])) _
      refine XS.iand X0.here hx rfl (hb hby at_10) rfl ?_
      show Steps p.tables e below (s₁.setTop (mkF m 11 #[.val (.long q1), .second, .val (.long q2), .second, .val (.int p3), .val (.long W), .second, .unset, .unset, .unset, .unset, .unset, .unset, .unset] [(.int (p3 &&& (1 : Int32)))])) _
      refine XS.ifYes X0.here hx rfl (pc0 := 11) (pc' := 18) rfl (hb hby at_11) rfl ((if0 _ _).trans (feq hcs1).2) (by decide) (by decide) ?_
      show Steps p.tables e below (s₁.setTop (mkF m 18 #[.val (.long q1), .second, .val (.long q2), .second, .val (.int p3), .val (.long W), .second, .unset, .unset, .unset, .unset, .unset, .unset, .unset] [])) _
      refine XS.lloadN X0.here hx rfl (hb hby at_18) rfl ?_
      exact k
  have hW0 : ¬ W < (0 : Int64) := own_w0 hW
  rw [← hW] at hw1
  rw [← hF] at hf
  obtain ⟨T2, h2, X2, e2, E2, A2, D2, -, st2⟩ := newO X0 hx hZ hown (hw _ (List.mem_of_getElem? (i := 1) rfl)) (hw _ (List.mem_of_getElem? (i := 2) rfl)) (hw _ (List.mem_of_getElem? (i := 3) rfl)) e0 (g := (mkF m 39 #[.val (.long q1), .second, .val (.long q2), .second, .val (.int p3), .val (.long W), .second, .val (.long F), .second, .unset, .unset, .unset, .unset, .unset] [])) rfl (hb hby at_39) (by decide) (by decide)
  obtain ⟨b2, g2⟩ : ∃ z, z = h0.size := ⟨_, rfl⟩
  rw [← g2] at A2 D2 st2
  have g_b2 : n0 ≤ b2 := Nat.le_trans Z0 (Nat.le_of_eq g2.symm)
  have Z2 := (Nat.le_trans Z0 E2.1)
  have F_whole_b2 : Fld Z h2 b2 "com/example/rate_gate/rategate/algorithm/Seconds" "whole" "J" (.long (0 : Int64)) := D2 (Or.inr (hw _ (List.mem_of_getElem? (i := 16) rfl))) (ty := .long) (by decide)
  have F_fraction_b2 : Fld Z h2 b2 "com/example/rate_gate/rategate/algorithm/Seconds" "fraction" "J" (.long (0 : Int64)) := D2 (Or.inr (hw _ (List.mem_of_getElem? (i := 18) rfl))) (ty := .long) (by decide)
  obtain ⟨_, _, ⟨T3, L3, k3, n3⟩, -, X3, ⟨Lc3, hQ3, l3, y3, z3⟩, st3⟩ := X2.specialBack hx (y := (⟨"com/example/rate_gate/rategate/algorithm/Seconds", "<init>", "(JJ)V"⟩ : MethodName)) rfl hown (mvT hZ (hw _ (List.mem_of_getElem? (i := 4) rfl))) (mvT hZ (hw _ (List.mem_of_getElem? (i := 5) rfl))) (mvT hZ (hw _ (List.mem_of_getElem? (i := 6) rfl))) (by decide) (backOf (W := 1) (rm1 l Z a0 hw [] b2 W F (.long (0 : Int64)) (.long (0 : Int64)) h2 n0 Z2 g_b2 A2 F_whole_b2 F_fraction_b2 hW0) hZ (hw _ (List.mem_of_getElem? (i := 6) rfl)) (hw _ (List.mem_of_getElem? (i := 3) rfl)) (by decide) (by decide)) (g := (mkF m 47 #[.val (.long q1), .second, .val (.long q2), .second, .val (.int p3), .val (.long W), .second, .val (.long F), .second, .unset, .unset, .unset, .unset, .unset] [(.long F), (.long W), (.ref b2), (.ref b2)])) rfl (by rw [hml]; rfl) (Steps.refl _) (a := b2) (argsL := [(.long W), (.long F)]) (rest := [(.ref b2)]) (lenOf pd_2 rfl) rfl (by show 2 * 0 + _ ≤ _; exact Nat.le_of_eq rfl) (hb hby at_47) (fun _ _ => ⟨rfl, e2, (by decide : 1 + 0 ≤ _), (by decide : 2 + 0 ≤ _)⟩)
  dsimp only [Pt.U, Pt.locs, Pt.cells, Pt.slots] at X3 l3 y3 z3 st3 hQ3
  subst l3 y3 z3
  obtain ⟨rfl, N3q, K3, E3, Fa3, Fb3⟩ := hQ3
  have N3 := Fr.app N0 N3q
  have A2_h3 := (A2.keep K3)
  have Z3 := (Nat.le_trans Z2 K3.1)
  obtain ⟨cq4, kq4, q4a, q4b, q4c⟩ := isOf hZ rfl E3
  obtain ⟨_, _, ⟨T4, L4, k4, n4⟩, -, X4, ⟨Lc4, hQ4, l4, y4, z4⟩, st4⟩ := X3.virtualBack hx (y := (⟨"com/example/rate_gate/rategate/algorithm/Seconds", "roundedUp", "()J"⟩ : MethodName)) (z := (⟨"com/example/rate_gate/rategate/algorithm/Seconds", "roundedUp", "()J"⟩ : MethodName)) hown (mvT hZ (hw _ (List.mem_of_getElem? (i := 19) rfl))) (mvT hZ (hw _ (List.mem_of_getElem? (i := 20) rfl))) (notFace_of_selects (args := #[]) (mvT hZ (hw _ (List.mem_of_getElem? (i := 22) rfl)))) (mvT hZ (hw _ (List.mem_of_getElem? (i := 22) rfl))) (mvT hZ (hw _ (List.mem_of_getElem? (i := 21) rfl))) (by decide) (backOf (W := 0) (rm4n l Z a0 hw [] b2 W F T3.heap n0 Z3 Fa3 Fb3 hf) hZ (hw _ (List.mem_of_getElem? (i := 23) rfl)) (hw _ (List.mem_of_getElem? (i := 3) rfl)) (by decide) (by decide)) q4a q4c (g := (mkF m 54 #[.val (.long q1), .second, .val (.long q2), .second, .val (.int p3), .val (.long W), .second, .val (.long F), .second, .val (.ref b2), .unset, .unset, .unset, .unset] [(.ref b2)])) rfl (by rw [hml]; rfl) (Steps.refl _) (argsL := []) (rest := []) (lenOf pd_3 rfl) rfl (by show 2 * 0 + _ ≤ _; exact Nat.le_of_eq rfl) (hb hby at_54) (fun _ _ => ⟨rfl, rfl, (by decide : 1 + 0 ≤ _), (by decide : 2 + 0 ≤ _)⟩)
  dsimp only [Pt.U, Pt.locs, Pt.cells, Pt.slots] at X4 l4 y4 z4 st4 hQ4
  subst l4 y4 z4
  obtain ⟨rfl, N4q, e4⟩ := hQ4
  have N4 := Fr.app N3 N4q
  obtain ⟨T5, h5, X5, e5, E5, A5, D5, -, st5⟩ := newO X4 hx hZ hown (hw _ (List.mem_of_getElem? (i := 1) rfl)) (hw _ (List.mem_of_getElem? (i := 2) rfl)) (hw _ (List.mem_of_getElem? (i := 3) rfl)) e4 (g := (mkF m 68 #[.val (.long q1), .second, .val (.long q2), .second, .val (.int p3), .val (.long W), .second, .val (.long F), .second, .val (.ref b2), .val (.long (W + (1 : Int64))), .second, .unset, .unset] [])) rfl (hb hby at_68) (by decide) (by decide)
  obtain ⟨b5, g5⟩ : ∃ z, z = T3.heap.size := ⟨_, rfl⟩
  rw [← g5] at A5 D5 st5
  have g_b5 : n0 ≤ b5 := Nat.le_trans Z3 (Nat.le_of_eq g5.symm)
  have ne_b2_b5 : b2 ≠ b5 := Nat.ne_of_lt (Nat.lt_of_lt_of_le E3.lt (Nat.le_of_eq g5.symm))
  have E3_h5 := (E3.ext E5)
  have Fa3_h5 := (Fa3.ext E5)
  have Fb3_h5 := (Fb3.ext E5)
  have Z5 := (Nat.le_trans Z3 E5.1)
  have F_whole_b5 : Fld Z h5 b5 "com/example/rate_gate/rategate/algorithm/Seconds" "whole" "J" (.long (0 : Int64)) := D5 (Or.inr (hw _ (List.mem_of_getElem? (i := 16) rfl))) (ty := .long) (by decide)
  have F_fraction_b5 : Fld Z h5 b5 "com/example/rate_gate/rategate/algorithm/Seconds" "fraction" "J" (.long (0 : Int64)) := D5 (Or.inr (hw _ (List.mem_of_getElem? (i := 18) rfl))) (ty := .long) (by decide)
  obtain ⟨_, _, ⟨T6, L6, k6, n6⟩, -, X6, ⟨Lc6, hQ6, l6, y6, z6⟩, st6⟩ := X5.specialBack hx (y := (⟨"com/example/rate_gate/rategate/algorithm/Seconds", "<init>", "(JJ)V"⟩ : MethodName)) rfl hown (mvT hZ (hw _ (List.mem_of_getElem? (i := 4) rfl))) (mvT hZ (hw _ (List.mem_of_getElem? (i := 5) rfl))) (mvT hZ (hw _ (List.mem_of_getElem? (i := 6) rfl))) (by decide) (backOf (W := 1) (rm1 l Z a0 hw [] b5 (W + (1 : Int64)) (0 : Int64) (.long (0 : Int64)) (.long (0 : Int64)) h5 n0 Z5 g_b5 A5 F_whole_b5 F_fraction_b5 (own_u0 hW0 hw1)) hZ (hw _ (List.mem_of_getElem? (i := 6) rfl)) (hw _ (List.mem_of_getElem? (i := 3) rfl)) (by decide) (by decide)) (g := (mkF m 75 #[.val (.long q1), .second, .val (.long q2), .second, .val (.int p3), .val (.long W), .second, .val (.long F), .second, .val (.ref b2), .val (.long (W + (1 : Int64))), .second, .unset, .unset] [(.long (0 : Int64)), (.long (W + (1 : Int64))), (.ref b5), (.ref b5)])) rfl (by rw [hml]; rfl) (Steps.refl _) (a := b5) (argsL := [(.long (W + (1 : Int64))), (.long (0 : Int64))]) (rest := [(.ref b5)]) (lenOf pd_2 rfl) rfl (by show 2 * 0 + _ ≤ _; exact Nat.le_of_eq rfl) (hb hby at_75) (fun _ _ => ⟨rfl, e5, (by decide : 2 + 0 ≤ _), (by decide : 4 + 0 ≤ _)⟩)
  dsimp only [Pt.U, Pt.locs, Pt.cells, Pt.slots] at X6 l6 y6 z6 st6 hQ6
  subst l6 y6 z6
  obtain ⟨rfl, N6q, K6, E6, Fa6, Fb6⟩ := hQ6
  have N6 := Fr.app N4 N6q
  have E3_h6 := (E3_h5.keep K6)
  have Fa3_h6 := (Fa3_h5.keep K6 (by simp only [List.mem_cons, List.not_mem_nil, or_false, not_or]; exact ne_b2_b5))
  have Fb3_h6 := (Fb3_h5.keep K6 (by simp only [List.mem_cons, List.not_mem_nil, or_false, not_or]; exact ne_b2_b5))
  have A5_h6 := (A5.keep K6)
  have Z6 := (Nat.le_trans Z5 K6.1)
  obtain ⟨cq7, kq7, q7a, q7b, q7c⟩ := isOf hZ rfl E6
  obtain ⟨_, _, ⟨T7, L7, k7, n7⟩, -, X7, ⟨Lc7, hQ7, l7, y7, z7⟩, st7⟩ := X6.virtualBack hx (y := (⟨"com/example/rate_gate/rategate/algorithm/Seconds", "compareTo", "(Lcom/example/rate_gate/rategate/algorithm/Seconds;)I"⟩ : MethodName)) (z := (⟨"com/example/rate_gate/rategate/algorithm/Seconds", "compareTo", "(Lcom/example/rate_gate/rategate/algorithm/Seconds;)I"⟩ : MethodName)) hown (mvT hZ (hw _ (List.mem_of_getElem? (i := 24) rfl))) (mvT hZ (hw _ (List.mem_of_getElem? (i := 25) rfl))) (notFace_of_selects (args := #[]) (mvT hZ (hw _ (List.mem_of_getElem? (i := 27) rfl)))) (mvT hZ (hw _ (List.mem_of_getElem? (i := 27) rfl))) (mvT hZ (hw _ (List.mem_of_getElem? (i := 26) rfl))) (by decide) (backOf (W := 0) (rm5n l Z a0 hw [] b5 b2 (W + (1 : Int64)) (0 : Int64) W F (1 : Int32) T6.heap n0 Z6 Fa6 Fb6 Fa3_h6 Fb3_h6 (own_un hW0 hw1).1 (own_un hW0 hw1).2) hZ (hw _ (List.mem_of_getElem? (i := 28) rfl)) (hw _ (List.mem_of_getElem? (i := 3) rfl)) (by decide) (by decide)) q7a q7c (g := (mkF m 80 #[.val (.long q1), .second, .val (.long q2), .second, .val (.int p3), .val (.long W), .second, .val (.long F), .second, .val (.ref b2), .val (.long (W + (1 : Int64))), .second, .unset, .unset] [(.ref b2), (.ref b5)])) rfl (by rw [hml]; rfl) (Steps.refl _) (argsL := [(.ref b2)]) (rest := []) (lenOf pd_4 rfl) rfl (by show 2 * 0 + _ ≤ _; exact Nat.le_of_eq rfl) (hb hby at_80) (fun _ _ => ⟨rfl, rfl, (by decide : 2 + 0 ≤ _), (by decide : 4 + 0 ≤ _)⟩)
  dsimp only [Pt.U, Pt.locs, Pt.cells, Pt.slots] at X7 l7 y7 z7 st7 hQ7
  subst l7 y7 z7
  obtain ⟨rfl, N7q, e7⟩ := hQ7
  have N7 := Fr.app N6 N7q
  obtain ⟨T8, h8, X8, e8, E8, A8, D8, -, st8⟩ := newO X7 hx hZ hown (hw _ (List.mem_of_getElem? (i := 1) rfl)) (hw _ (List.mem_of_getElem? (i := 2) rfl)) (hw _ (List.mem_of_getElem? (i := 3) rfl)) e7 (g := (mkF m 100 #[.val (.long q1), .second, .val (.long q2), .second, .val (.int p3), .val (.long W), .second, .val (.long F), .second, .val (.ref b2), .val (.long (W + (1 : Int64))), .second, .val (.int (1 : Int32)), .unset] [])) rfl (hb hby at_100) (by decide) (by decide)
  obtain ⟨b8, g8⟩ : ∃ z, z = T6.heap.size := ⟨_, rfl⟩
  rw [← g8] at A8 D8 st8
  have g_b8 : n0 ≤ b8 := Nat.le_trans Z6 (Nat.le_of_eq g8.symm)
  have ne_b2_b8 : b2 ≠ b8 := Nat.ne_of_lt (Nat.lt_of_lt_of_le E3_h6.lt (Nat.le_of_eq g8.symm))
  have ne_b5_b8 : b5 ≠ b8 := Nat.ne_of_lt (Nat.lt_of_lt_of_le E6.lt (Nat.le_of_eq g8.symm))
  have E3_h8 := (E3_h6.ext E8)
  have Fa3_h8 := (Fa3_h6.ext E8)
  have Fb3_h8 := (Fb3_h6.ext E8)
  have E6_h8 := (E6.ext E8)
  have Fa6_h8 := (Fa6.ext E8)
  have Fb6_h8 := (Fb6.ext E8)
  have Z8 := (Nat.le_trans Z6 E8.1)
  have F_whole_b8 : Fld Z h8 b8 "com/example/rate_gate/rategate/algorithm/Seconds" "whole" "J" (.long (0 : Int64)) := D8 (Or.inr (hw _ (List.mem_of_getElem? (i := 16) rfl))) (ty := .long) (by decide)
  have F_fraction_b8 : Fld Z h8 b8 "com/example/rate_gate/rategate/algorithm/Seconds" "fraction" "J" (.long (0 : Int64)) := D8 (Or.inr (hw _ (List.mem_of_getElem? (i := 18) rfl))) (ty := .long) (by decide)
  obtain ⟨_, _, ⟨T9, L9, k9, n9⟩, -, X9, ⟨Lc9, hQ9, l9, y9, z9⟩, st9⟩ := X8.specialBack hx (y := (⟨"com/example/rate_gate/rategate/algorithm/Seconds", "<init>", "(JJ)V"⟩ : MethodName)) rfl hown (mvT hZ (hw _ (List.mem_of_getElem? (i := 4) rfl))) (mvT hZ (hw _ (List.mem_of_getElem? (i := 5) rfl))) (mvT hZ (hw _ (List.mem_of_getElem? (i := 6) rfl))) (by decide) (backOf (W := 1) (rm1 l Z a0 hw [] b8 ((W + (1 : Int64)) - (1 : Int64)) (0 : Int64) (.long (0 : Int64)) (.long (0 : Int64)) h8 n0 Z8 g_b8 A8 F_whole_b8 F_fraction_b8 (own_ud hW0)) hZ (hw _ (List.mem_of_getElem? (i := 6) rfl)) (hw _ (List.mem_of_getElem? (i := 3) rfl)) (by decide) (by decide)) (g := (mkF m 109 #[.val (.long q1), .second, .val (.long q2), .second, .val (.int p3), .val (.long W), .second, .val (.long F), .second, .val (.ref b2), .val (.long (W + (1 : Int64))), .second, .val (.int (1 : Int32)), .unset] [(.long (0 : Int64)), (.long ((W + (1 : Int64)) - (1 : Int64))), (.ref b8), (.ref b8)])) rfl (by rw [hml]; rfl) (Steps.refl _) (a := b8) (argsL := [(.long ((W + (1 : Int64)) - (1 : Int64))), (.long (0 : Int64))]) (rest := [(.ref b8)]) (lenOf pd_2 rfl) rfl (by show 2 * 0 + _ ≤ _; exact Nat.le_of_eq rfl) (hb hby at_109) (fun _ _ => ⟨rfl, e8, (by decide : 3 + 0 ≤ _), (by decide : 6 + 0 ≤ _)⟩)
  dsimp only [Pt.U, Pt.locs, Pt.cells, Pt.slots] at X9 l9 y9 z9 st9 hQ9
  subst l9 y9 z9
  obtain ⟨rfl, N9q, K9, E9, Fa9, Fb9⟩ := hQ9
  have N9 := Fr.app N7 N9q
  have E3_h9 := (E3_h8.keep K9)
  have Fa3_h9 := (Fa3_h8.keep K9 (by simp only [List.mem_cons, List.not_mem_nil, or_false, not_or]; exact ne_b2_b8))
  have Fb3_h9 := (Fb3_h8.keep K9 (by simp only [List.mem_cons, List.not_mem_nil, or_false, not_or]; exact ne_b2_b8))
  have E6_h9 := (E6_h8.keep K9)
  have Fa6_h9 := (Fa6_h8.keep K9 (by simp only [List.mem_cons, List.not_mem_nil, or_false, not_or]; exact ne_b5_b8))
  have Fb6_h9 := (Fb6_h8.keep K9 (by simp only [List.mem_cons, List.not_mem_nil, or_false, not_or]; exact ne_b5_b8))
  have A8_h9 := (A8.keep K9)
  have Z9 := (Nat.le_trans Z8 K9.1)
  obtain ⟨cq10, kq10, q10a, q10b, q10c⟩ := isOf hZ rfl E9
  obtain ⟨_, _, ⟨T10, L10, k10, n10⟩, -, X10, ⟨Lc10, hQ10, l10, y10, z10⟩, st10⟩ := X9.virtualBack hx (y := (⟨"com/example/rate_gate/rategate/algorithm/Seconds", "compareTo", "(Lcom/example/rate_gate/rategate/algorithm/Seconds;)I"⟩ : MethodName)) (z := (⟨"com/example/rate_gate/rategate/algorithm/Seconds", "compareTo", "(Lcom/example/rate_gate/rategate/algorithm/Seconds;)I"⟩ : MethodName)) hown (mvT hZ (hw _ (List.mem_of_getElem? (i := 24) rfl))) (mvT hZ (hw _ (List.mem_of_getElem? (i := 25) rfl))) (notFace_of_selects (args := #[]) (mvT hZ (hw _ (List.mem_of_getElem? (i := 27) rfl)))) (mvT hZ (hw _ (List.mem_of_getElem? (i := 27) rfl))) (mvT hZ (hw _ (List.mem_of_getElem? (i := 26) rfl))) (by decide) (backOf (W := 0) (rm5e l Z a0 hw [] b8 b2 ((W + (1 : Int64)) - (1 : Int64)) (0 : Int64) W F (-1 : Int32) T9.heap n0 Z9 Fa9 Fb9 Fa3_h9 Fb3_h9 (own_ue W) (own_fn hf)) hZ (hw _ (List.mem_of_getElem? (i := 28) rfl)) (hw _ (List.mem_of_getElem? (i := 3) rfl)) (by decide) (by decide)) q10a q10c (g := (mkF m 114 #[.val (.long q1), .second, .val (.long q2), .second, .val (.int p3), .val (.long W), .second, .val (.long F), .second, .val (.ref b2), .val (.long (W + (1 : Int64))), .second, .val (.int (1 : Int32)), .unset] [(.ref b2), (.ref b8)])) rfl (by rw [hml]; rfl) (Steps.refl _) (argsL := [(.ref b2)]) (rest := []) (lenOf pd_4 rfl) rfl (by show 2 * 0 + _ ≤ _; exact Nat.le_of_eq rfl) (hb hby at_114) (fun _ _ => ⟨rfl, rfl, (by decide : 3 + 0 ≤ _), (by decide : 6 + 0 ≤ _)⟩)
  dsimp only [Pt.U, Pt.locs, Pt.cells, Pt.slots] at X10 l10 y10 z10 st10 hQ10
  subst l10 y10 z10
  obtain ⟨rfl, N10q, e10⟩ := hQ10
  have N10 := Fr.app N9 N10q
  obtain ⟨fs, hr, hrun, hended, hW, hsame⟩ := X10.leave (v := some (.int (1 : Int32))) (fun h => by rw [Bd.returns] at h; cases h)
  refine ⟨_, _, pre0 _ ?_, hrun, hended, _, _, rfl, ?_, ⟨_, rfl⟩, hW, hsame.mono (by decide) (by decide)⟩
  · show Steps p.tables e below (s₁.setTop (mkF m 0 #[.val (.long q1), .second, .val (.long q2), .second, .val (.int p3), .unset, .unset, .unset, .unset, .unset, .unset, .unset, .unset, .unset] [])) _
    refine XS.lloadN X0.here hx rfl (hb hby at_0) rfl ?_
    show Steps p.tables e below (s₁.setTop (mkF m 1 #[.val (.long q1), .second, .val (.long q2), .second, .val (.int p3), .unset, .unset, .unset, .unset, .unset, .unset, .unset, .unset, .unset] [(.long q1)])) _
    refine X0.ldc2Long hx hown (mvT hZ (hw _ (List.mem_of_getElem? (i := 0) rfl))) (g := (mkF m 1 #[.val (.long q1), .second, .val (.long q2), .second, .val (.int p3), .unset, .unset, .unset, .unset, .unset, .unset, .unset, .unset, .unset] [(.long q1)])) rfl (hb hby at_1) _ ?_
    show Steps p.tables e below (s₁.setTop (mkF m 4 #[.val (.long q1), .second, .val (.long q2), .second, .val (.int p3), .unset, .unset, .unset, .unset, .unset, .unset, .unset, .unset, .unset] [(.long (9223372036854775807 : Int64)), (.long q1)])) _
    refine XS.land X0.here hx rfl (hb hby at_4) rfl ?_
    show Steps p.tables e below (s₁.setTop (mkF m 5 #[.val (.long q1), .second, .val (.long q2), .second, .val (.int p3), .unset, .unset, .unset, .unset, .unset, .unset, .unset, .unset, .unset] [(.long (q1 &&& (9223372036854775807 : Int64)))])) _
    refine XS.lstore X0.here hx rfl (hb hby at_5) rfl (l' := #[.val (.long q1), .second, .val (.long q2), .second, .val (.int p3), .val (.long (q1 &&& (9223372036854775807 : Int64))), .second, .unset, .unset, .unset, .unset, .unset, .unset, .unset]) rfl ?_
    show Steps p.tables e below (s₁.setTop (mkF m 7 #[.val (.long q1), .second, .val (.long q2), .second, .val (.int p3), .val (.long (q1 &&& (9223372036854775807 : Int64))), .second, .unset, .unset, .unset, .unset, .unset, .unset, .unset] [])) _
    refine stW _ ?_
    show Steps p.tables e below (s₁.setTop (mkF m 7 #[.val (.long q1), .second, .val (.long q2), .second, .val (.int p3), .val (.long W), .second, .unset, .unset, .unset, .unset, .unset, .unset, .unset] [])) _
    refine st1 _ ?_
    show Steps p.tables e below (s₁.setTop (mkF m 19 #[.val (.long q1), .second, .val (.long q2), .second, .val (.int p3), .val (.long W), .second, .unset, .unset, .unset, .unset, .unset, .unset, .unset] [(.long F)])) _
    refine XS.lstore X0.here hx rfl (hb hby at_19) rfl (l' := #[.val (.long q1), .second, .val (.long q2), .second, .val (.int p3), .val (.long W), .second, .val (.long F), .second, .unset, .unset, .unset, .unset, .unset]) rfl ?_
    show Steps p.tables e below (s₁.setTop (mkF m 21 #[.val (.long q1), .second, .val (.long q2), .second, .val (.int p3), .val (.long W), .second, .val (.long F), .second, .unset, .unset, .unset, .unset, .unset] [])) _
    refine XS.lload X0.here hx rfl (hb hby at_21) rfl ?_
    show Steps p.tables e below (s₁.setTop (mkF m 23 #[.val (.long q1), .second, .val (.long q2), .second, .val (.int p3), .val (.long W), .second, .val (.long F), .second, .unset, .unset, .unset, .unset, .unset] [(.long W)])) _
    refine X0.ldc2Long hx hown (mvT hZ (hw _ (List.mem_of_getElem? (i := 0) rfl))) (g := (mkF m 23 #[.val (.long q1), .second, .val (.long q2), .second, .val (.int p3), .val (.long W), .second, .val (.long F), .second, .unset, .unset, .unset, .unset, .unset] [(.long W)])) rfl (hb hby at_23) _ ?_
    show Steps p.tables e below (s₁.setTop (mkF m 26 #[.val (.long q1), .second, .val (.long q2), .second, .val (.int p3), .val (.long W), .second, .val (.long F), .second, .unset, .unset, .unset, .unset, .unset] [(.long (9223372036854775807 : Int64)), (.long W)])) _
    refine XS.lcmp X0.here hx rfl (hb hby at_26) rfl ?_
    show Steps p.tables e below (s₁.setTop (mkF m 27 #[.val (.long q1), .second, .val (.long q2), .second, .val (.int p3), .val (.long W), .second, .val (.long F), .second, .unset, .unset, .unset, .unset, .unset] [(.int (lcmpW W (9223372036854775807 : Int64)))])) _
    refine XS.ifYes X0.here hx rfl (pc0 := 27) (pc' := 39) rfl (hb hby at_27) rfl ((if0 _ _).trans (feq (fun q => hw1 ((lw_eq _ _).mp q) : ¬ ((lcmpW W (9223372036854775807 : Int64)) = (0 : Int32)))).2) (by decide) (by decide) ?_
    show Steps p.tables e below (s₁.setTop (mkF m 39 #[.val (.long q1), .second, .val (.long q2), .second, .val (.int p3), .val (.long W), .second, .val (.long F), .second, .unset, .unset, .unset, .unset, .unset] [])) _
    refine st2 _ ?_
    show Steps p.tables e below (T2.setTop (mkF m 42 #[.val (.long q1), .second, .val (.long q2), .second, .val (.int p3), .val (.long W), .second, .val (.long F), .second, .unset, .unset, .unset, .unset, .unset] [(.ref b2)])) _
    refine XS.dup X2.here hx rfl (hb hby at_42) rfl rfl ?_
    show Steps p.tables e below (T2.setTop (mkF m 43 #[.val (.long q1), .second, .val (.long q2), .second, .val (.int p3), .val (.long W), .second, .val (.long F), .second, .unset, .unset, .unset, .unset, .unset] [(.ref b2), (.ref b2)])) _
    refine XS.lload X2.here hx rfl (hb hby at_43) rfl ?_
    show Steps p.tables e below (T2.setTop (mkF m 45 #[.val (.long q1), .second, .val (.long q2), .second, .val (.int p3), .val (.long W), .second, .val (.long F), .second, .unset, .unset, .unset, .unset, .unset] [(.long W), (.ref b2), (.ref b2)])) _
    refine XS.lload X2.here hx rfl (hb hby at_45) rfl ?_
    show Steps p.tables e below (T2.setTop (mkF m 47 #[.val (.long q1), .second, .val (.long q2), .second, .val (.int p3), .val (.long W), .second, .val (.long F), .second, .unset, .unset, .unset, .unset, .unset] [(.long F), (.long W), (.ref b2), (.ref b2)])) _
    refine st3.trans ?_
    show Steps p.tables e below (T3.setTop (mkF m 50 #[.val (.long q1), .second, .val (.long q2), .second, .val (.int p3), .val (.long W), .second, .val (.long F), .second, .unset, .unset, .unset, .unset, .unset] [(.ref b2)])) _
    refine XS.astore X3.here hx rfl (hb hby at_50) rfl rfl (l' := #[.val (.long q1), .second, .val (.long q2), .second, .val (.int p3), .val (.long W), .second, .val (.long F), .second, .val (.ref b2), .unset, .unset, .unset, .unset]) rfl ?_
    show Steps p.tables e below (T3.setTop (mkF m 52 #[.val (.long q1), .second, .val (.long q2), .second, .val (.int p3), .val (.long W), .second, .val (.long F), .second, .val (.ref b2), .unset, .unset, .unset, .unset] [])) _
    refine XS.aload X3.here hx rfl (hb hby at_52) rfl rfl ?_
    show Steps p.tables e below (T3.setTop (mkF m 54 #[.val (.long q1), .second, .val (.long q2), .second, .val (.int p3), .val (.long W), .second, .val (.long F), .second, .val (.ref b2), .unset, .unset, .unset, .unset] [(.ref b2)])) _
    refine st4.trans ?_
    show Steps p.tables e below (T4.setTop (mkF m 57 #[.val (.long q1), .second, .val (.long q2), .second, .val (.int p3), .val (.long W), .second, .val (.long F), .second, .val (.ref b2), .unset, .unset, .unset, .unset] [(.long (W + (1 : Int64)))])) _
    refine XS.lstore X4.here hx rfl (hb hby at_57) rfl (l' := #[.val (.long q1), .second, .val (.long q2), .second, .val (.int p3), .val (.long W), .second, .val (.long F), .second, .val (.ref b2), .val (.long (W + (1 : Int64))), .second, .unset, .unset]) rfl ?_
    show Steps p.tables e below (T4.setTop (mkF m 59 #[.val (.long q1), .second, .val (.long q2), .second, .val (.int p3), .val (.long W), .second, .val (.long F), .second, .val (.ref b2), .val (.long (W + (1 : Int64))), .second, .unset, .unset] [])) _
    refine XS.lload X4.here hx rfl (hb hby at_59) rfl ?_
    show Steps p.tables e below (T4.setTop (mkF m 61 #[.val (.long q1), .second, .val (.long q2), .second, .val (.int p3), .val (.long W), .second, .val (.long F), .second, .val (.ref b2), .val (.long (W + (1 : Int64))), .second, .unset, .unset] [(.long (W + (1 : Int64)))])) _
    refine XS.lconst X4.here hx rfl (hb hby at_61) ?_
    show Steps p.tables e below (T4.setTop (mkF m 62 #[.val (.long q1), .second, .val (.long q2), .second, .val (.int p3), .val (.long W), .second, .val (.long F), .second, .val (.ref b2), .val (.long (W + (1 : Int64))), .second, .unset, .unset] [(.long (0 : Int64)), (.long (W + (1 : Int64)))])) _
    refine XS.lcmp X4.here hx rfl (hb hby at_62) rfl ?_
    show Steps p.tables e below (T4.setTop (mkF m 63 #[.val (.long q1), .second, .val (.long q2), .second, .val (.int p3), .val (.long W), .second, .val (.long F), .second, .val (.ref b2), .val (.long (W + (1 : Int64))), .second, .unset, .unset] [(.int (lcmpW (W + (1 : Int64)) (0 : Int64)))])) _
    refine XS.ifYes X4.here hx rfl (pc0 := 63) (pc' := 68) rfl (hb hby at_63) rfl ((if0 _ _).trans (flt (fun q => (own_u0 hW0 hw1) ((lw_lt _ _).mp q) : ¬ ((lcmpW (W + (1 : Int64)) (0 : Int64)) < (0 : Int32)))).2.1) (by decide) (by decide) ?_
    show Steps p.tables e below (T4.setTop (mkF m 68 #[.val (.long q1), .second, .val (.long q2), .second, .val (.int p3), .val (.long W), .second, .val (.long F), .second, .val (.ref b2), .val (.long (W + (1 : Int64))), .second, .unset, .unset] [])) _
    refine st5 _ ?_
    show Steps p.tables e below (T5.setTop (mkF m 71 #[.val (.long q1), .second, .val (.long q2), .second, .val (.int p3), .val (.long W), .second, .val (.long F), .second, .val (.ref b2), .val (.long (W + (1 : Int64))), .second, .unset, .unset] [(.ref b5)])) _
    refine XS.dup X5.here hx rfl (hb hby at_71) rfl rfl ?_
    show Steps p.tables e below (T5.setTop (mkF m 72 #[.val (.long q1), .second, .val (.long q2), .second, .val (.int p3), .val (.long W), .second, .val (.long F), .second, .val (.ref b2), .val (.long (W + (1 : Int64))), .second, .unset, .unset] [(.ref b5), (.ref b5)])) _
    refine XS.lload X5.here hx rfl (hb hby at_72) rfl ?_
    show Steps p.tables e below (T5.setTop (mkF m 74 #[.val (.long q1), .second, .val (.long q2), .second, .val (.int p3), .val (.long W), .second, .val (.long F), .second, .val (.ref b2), .val (.long (W + (1 : Int64))), .second, .unset, .unset] [(.long (W + (1 : Int64))), (.ref b5), (.ref b5)])) _
    refine XS.lconst X5.here hx rfl (hb hby at_74) ?_
    show Steps p.tables e below (T5.setTop (mkF m 75 #[.val (.long q1), .second, .val (.long q2), .second, .val (.int p3), .val (.long W), .second, .val (.long F), .second, .val (.ref b2), .val (.long (W + (1 : Int64))), .second, .unset, .unset] [(.long (0 : Int64)), (.long (W + (1 : Int64))), (.ref b5), (.ref b5)])) _
    refine st6.trans ?_
    show Steps p.tables e below (T6.setTop (mkF m 78 #[.val (.long q1), .second, .val (.long q2), .second, .val (.int p3), .val (.long W), .second, .val (.long F), .second, .val (.ref b2), .val (.long (W + (1 : Int64))), .second, .unset, .unset] [(.ref b5)])) _
    refine XS.aload X6.here hx rfl (hb hby at_78) rfl rfl ?_
    show Steps p.tables e below (T6.setTop (mkF m 80 #[.val (.long q1), .second, .val (.long q2), .second, .val (.int p3), .val (.long W), .second, .val (.long F), .second, .val (.ref b2), .val (.long (W + (1 : Int64))), .second, .unset, .unset] [(.ref b2), (.ref b5)])) _
    refine st7.trans ?_
    show Steps p.tables e below (T7.setTop (mkF m 83 #[.val (.long q1), .second, .val (.long q2), .second, .val (.int p3), .val (.long W), .second, .val (.long F), .second, .val (.ref b2), .val (.long (W + (1 : Int64))), .second, .unset, .unset] [(.int (1 : Int32))])) _
    refine XS.ifNo X7.here hx rfl (hb hby at_83) rfl ((if0 _ _).trans (flt (by decide : ¬ ((1 : Int32) < (0 : Int32)))).1) ?_
    show Steps p.tables e below (T7.setTop (mkF m 86 #[.val (.long q1), .second, .val (.long q2), .second, .val (.int p3), .val (.long W), .second, .val (.long F), .second, .val (.ref b2), .val (.long (W + (1 : Int64))), .second, .unset, .unset] [])) _
    refine XS.iconst X7.here hx rfl (hb hby at_86) ?_
    show Steps p.tables e below (T7.setTop (mkF m 87 #[.val (.long q1), .second, .val (.long q2), .second, .val (.int p3), .val (.long W), .second, .val (.long F), .second, .val (.ref b2), .val (.long (W + (1 : Int64))), .second, .unset, .unset] [(.int (1 : Int32))])) _
    refine XS.goto X7.here hx rfl (pc0 := 87) (pc' := 91) rfl (hb hby at_87) (by decide) (by decide) ?_
    show Steps p.tables e below (T7.setTop (mkF m 91 #[.val (.long q1), .second, .val (.long q2), .second, .val (.int p3), .val (.long W), .second, .val (.long F), .second, .val (.ref b2), .val (.long (W + (1 : Int64))), .second, .unset, .unset] [(.int (1 : Int32))])) _
    refine XS.istore X7.here hx rfl (hb hby at_91) rfl (l' := #[.val (.long q1), .second, .val (.long q2), .second, .val (.int p3), .val (.long W), .second, .val (.long F), .second, .val (.ref b2), .val (.long (W + (1 : Int64))), .second, .val (.int (1 : Int32)), .unset]) rfl ?_
    show Steps p.tables e below (T7.setTop (mkF m 93 #[.val (.long q1), .second, .val (.long q2), .second, .val (.int p3), .val (.long W), .second, .val (.long F), .second, .val (.ref b2), .val (.long (W + (1 : Int64))), .second, .val (.int (1 : Int32)), .unset] [])) _
    refine XS.lload X7.here hx rfl (hb hby at_93) rfl ?_
    show Steps p.tables e below (T7.setTop (mkF m 95 #[.val (.long q1), .second, .val (.long q2), .second, .val (.int p3), .val (.long W), .second, .val (.long F), .second, .val (.ref b2), .val (.long (W + (1 : Int64))), .second, .val (.int (1 : Int32)), .unset] [(.long (W + (1 : Int64)))])) _
    refine XS.lconst X7.here hx rfl (hb hby at_95) ?_
    show Steps p.tables e below (T7.setTop (mkF m 96 #[.val (.long q1), .second, .val (.long q2), .second, .val (.int p3), .val (.long W), .second, .val (.long F), .second, .val (.ref b2), .val (.long (W + (1 : Int64))), .second, .val (.int (1 : Int32)), .unset] [(.long (0 : Int64)), (.long (W + (1 : Int64)))])) _
    refine XS.lcmp X7.here hx rfl (hb hby at_96) rfl ?_
    show Steps p.tables e below (T7.setTop (mkF m 97 #[.val (.long q1), .second, .val (.long q2), .second, .val (.int p3), .val (.long W), .second, .val (.long F), .second, .val (.ref b2), .val (.long (W + (1 : Int64))), .second, .val (.int (1 : Int32)), .unset] [(.int (lcmpW (W + (1 : Int64)) (0 : Int64)))])) _
    refine XS.ifNo X7.here hx rfl (hb hby at_97) rfl ((if0 _ _).trans (feq (fun q => own_uz hW0 hw1 ((lw_eq _ _).mp q) : ¬ ((lcmpW (W + (1 : Int64)) (0 : Int64)) = (0 : Int32)))).1) ?_
    show Steps p.tables e below (T7.setTop (mkF m 100 #[.val (.long q1), .second, .val (.long q2), .second, .val (.int p3), .val (.long W), .second, .val (.long F), .second, .val (.ref b2), .val (.long (W + (1 : Int64))), .second, .val (.int (1 : Int32)), .unset] [])) _
    refine st8 _ ?_
    show Steps p.tables e below (T8.setTop (mkF m 103 #[.val (.long q1), .second, .val (.long q2), .second, .val (.int p3), .val (.long W), .second, .val (.long F), .second, .val (.ref b2), .val (.long (W + (1 : Int64))), .second, .val (.int (1 : Int32)), .unset] [(.ref b8)])) _
    refine XS.dup X8.here hx rfl (hb hby at_103) rfl rfl ?_
    show Steps p.tables e below (T8.setTop (mkF m 104 #[.val (.long q1), .second, .val (.long q2), .second, .val (.int p3), .val (.long W), .second, .val (.long F), .second, .val (.ref b2), .val (.long (W + (1 : Int64))), .second, .val (.int (1 : Int32)), .unset] [(.ref b8), (.ref b8)])) _
    refine XS.lload X8.here hx rfl (hb hby at_104) rfl ?_
    show Steps p.tables e below (T8.setTop (mkF m 106 #[.val (.long q1), .second, .val (.long q2), .second, .val (.int p3), .val (.long W), .second, .val (.long F), .second, .val (.ref b2), .val (.long (W + (1 : Int64))), .second, .val (.int (1 : Int32)), .unset] [(.long (W + (1 : Int64))), (.ref b8), (.ref b8)])) _
    refine XS.lconst X8.here hx rfl (hb hby at_106) ?_
    show Steps p.tables e below (T8.setTop (mkF m 107 #[.val (.long q1), .second, .val (.long q2), .second, .val (.int p3), .val (.long W), .second, .val (.long F), .second, .val (.ref b2), .val (.long (W + (1 : Int64))), .second, .val (.int (1 : Int32)), .unset] [(.long (1 : Int64)), (.long (W + (1 : Int64))), (.ref b8), (.ref b8)])) _
    refine XS.lsub X8.here hx rfl (hb hby at_107) rfl ?_
    show Steps p.tables e below (T8.setTop (mkF m 108 #[.val (.long q1), .second, .val (.long q2), .second, .val (.int p3), .val (.long W), .second, .val (.long F), .second, .val (.ref b2), .val (.long (W + (1 : Int64))), .second, .val (.int (1 : Int32)), .unset] [(.long ((W + (1 : Int64)) - (1 : Int64))), (.ref b8), (.ref b8)])) _
    refine XS.lconst X8.here hx rfl (hb hby at_108) ?_
    show Steps p.tables e below (T8.setTop (mkF m 109 #[.val (.long q1), .second, .val (.long q2), .second, .val (.int p3), .val (.long W), .second, .val (.long F), .second, .val (.ref b2), .val (.long (W + (1 : Int64))), .second, .val (.int (1 : Int32)), .unset] [(.long (0 : Int64)), (.long ((W + (1 : Int64)) - (1 : Int64))), (.ref b8), (.ref b8)])) _
    refine st9.trans ?_
    show Steps p.tables e below (T9.setTop (mkF m 112 #[.val (.long q1), .second, .val (.long q2), .second, .val (.int p3), .val (.long W), .second, .val (.long F), .second, .val (.ref b2), .val (.long (W + (1 : Int64))), .second, .val (.int (1 : Int32)), .unset] [(.ref b8)])) _
    refine XS.aload X9.here hx rfl (hb hby at_112) rfl rfl ?_
    show Steps p.tables e below (T9.setTop (mkF m 114 #[.val (.long q1), .second, .val (.long q2), .second, .val (.int p3), .val (.long W), .second, .val (.long F), .second, .val (.ref b2), .val (.long (W + (1 : Int64))), .second, .val (.int (1 : Int32)), .unset] [(.ref b2), (.ref b8)])) _
    refine st10.trans ?_
    show Steps p.tables e below (T10.setTop (mkF m 117 #[.val (.long q1), .second, .val (.long q2), .second, .val (.int p3), .val (.long W), .second, .val (.long F), .second, .val (.ref b2), .val (.long (W + (1 : Int64))), .second, .val (.int (1 : Int32)), .unset] [(.int (-1 : Int32))])) _
    refine XS.ifNo X10.here hx rfl (hb hby at_117) rfl ((if0 _ _).trans (tlt (by decide : (-1 : Int32) < (0 : Int32))).2.1) ?_
    show Steps p.tables e below (T10.setTop (mkF m 120 #[.val (.long q1), .second, .val (.long q2), .second, .val (.int p3), .val (.long W), .second, .val (.long F), .second, .val (.ref b2), .val (.long (W + (1 : Int64))), .second, .val (.int (1 : Int32)), .unset] [])) _
    refine XS.iconst X10.here hx rfl (hb hby at_120) ?_
    show Steps p.tables e below (T10.setTop (mkF m 121 #[.val (.long q1), .second, .val (.long q2), .second, .val (.int p3), .val (.long W), .second, .val (.long F), .second, .val (.ref b2), .val (.long (W + (1 : Int64))), .second, .val (.int (1 : Int32)), .unset] [(.int (1 : Int32))])) _
    refine XS.goto X10.here hx rfl (pc0 := 121) (pc' := 125) rfl (hb hby at_121) (by decide) (by decide) ?_
    show Steps p.tables e below (T10.setTop (mkF m 125 #[.val (.long q1), .second, .val (.long q2), .second, .val (.int p3), .val (.long W), .second, .val (.long F), .second, .val (.ref b2), .val (.long (W + (1 : Int64))), .second, .val (.int (1 : Int32)), .unset] [(.int (1 : Int32))])) _
    refine XS.istore X10.here hx rfl (hb hby at_125) rfl (l' := #[.val (.long q1), .second, .val (.long q2), .second, .val (.int p3), .val (.long W), .second, .val (.long F), .second, .val (.ref b2), .val (.long (W + (1 : Int64))), .second, .val (.int (1 : Int32)), .val (.int (1 : Int32))]) rfl ?_
    show Steps p.tables e below (T10.setTop (mkF m 127 #[.val (.long q1), .second, .val (.long q2), .second, .val (.int p3), .val (.long W), .second, .val (.long F), .second, .val (.ref b2), .val (.long (W + (1 : Int64))), .second, .val (.int (1 : Int32)), .val (.int (1 : Int32))] [])) _
    refine XS.iload X10.here hx rfl (hb hby at_127) rfl ?_
    show Steps p.tables e below (T10.setTop (mkF m 129 #[.val (.long q1), .second, .val (.long q2), .second, .val (.int p3), .val (.long W), .second, .val (.long F), .second, .val (.ref b2), .val (.long (W + (1 : Int64))), .second, .val (.int (1 : Int32)), .val (.int (1 : Int32))] [(.int (1 : Int32))])) _
    refine XS.ifNo X10.here hx rfl (hb hby at_129) rfl ((if0 _ _).trans (feq (by decide : ¬ ((1 : Int32) = (0 : Int32)))).1) ?_
    show Steps p.tables e below (T10.setTop (mkF m 132 #[.val (.long q1), .second, .val (.long q2), .second, .val (.int p3), .val (.long W), .second, .val (.long F), .second, .val (.ref b2), .val (.long (W + (1 : Int64))), .second, .val (.int (1 : Int32)), .val (.int (1 : Int32))] [])) _
    refine XS.iload X10.here hx rfl (hb hby at_132) rfl ?_
    show Steps p.tables e below (T10.setTop (mkF m 134 #[.val (.long q1), .second, .val (.long q2), .second, .val (.int p3), .val (.long W), .second, .val (.long F), .second, .val (.ref b2), .val (.long (W + (1 : Int64))), .second, .val (.int (1 : Int32)), .val (.int (1 : Int32))] [(.int (1 : Int32))])) _
    refine XS.ifNo X10.here hx rfl (hb hby at_134) rfl ((if0 _ _).trans (feq (by decide : ¬ ((1 : Int32) = (0 : Int32)))).1) ?_
    show Steps p.tables e below (T10.setTop (mkF m 137 #[.val (.long q1), .second, .val (.long q2), .second, .val (.int p3), .val (.long W), .second, .val (.long F), .second, .val (.ref b2), .val (.long (W + (1 : Int64))), .second, .val (.int (1 : Int32)), .val (.int (1 : Int32))] [])) _
    refine XS.iconst X10.here hx rfl (hb hby at_137) ?_
    show Steps p.tables e below (T10.setTop (mkF m 138 #[.val (.long q1), .second, .val (.long q2), .second, .val (.int p3), .val (.long W), .second, .val (.long F), .second, .val (.ref b2), .val (.long (W + (1 : Int64))), .second, .val (.int (1 : Int32)), .val (.int (1 : Int32))] [(.int (1 : Int32))])) _
    refine XS.goto X10.here hx rfl (pc0 := 138) (pc' := 142) rfl (hb hby at_138) (by decide) (by decide) ?_
    show Steps p.tables e below (T10.setTop (mkF m 142 #[.val (.long q1), .second, .val (.long q2), .second, .val (.int p3), .val (.long W), .second, .val (.long F), .second, .val (.ref b2), .val (.long (W + (1 : Int64))), .second, .val (.int (1 : Int32)), .val (.int (1 : Int32))] [(.int (1 : Int32))])) _
    exact retN X10 hx (t := .boolean) Bd.returns (by simp) (hb hby at_142) hr
  · show Q0C Z q1 q2 p3  h0 n0 _ T10.heap _
    rw [e10]
    exact ⟨rfl, N10⟩

set_option maxRecDepth 65536 in
set_option maxHeartbeats 40000000 in
theorem rm0 (l : Launch) (Z : State) (a0 : Array Value) (hw : ∀ d ∈ tables_1, d.before a0 Z = true) (ws : List Jvm.Cond) (q1 : Int64) (q2 : Int64) (p3 : Int32) (h0 : Heap) (n0 : Nat) (Z0 : n0 ≤ h0.size) :
    MetFree l x (head1 (Jvm.Cond.code x code maxLocals ret :: ws) room_1) (fun a U => a = #[(.long q1), (.long q2), (.int p3)] ∧ Z.Warmed39 U.vm ∧ U.heap = h0) (fun _ _ _ _ _ => True) (fun _ U o U' => ∃ v L, o = .returned v ∧ Q0A Z q1 q2 p3 h0 n0 v U'.heap L ∧ FrameEnd U o U' L room_1.cells room_1.slots) := by
  by_cases hf : (if (p3 &&& (1 : Int32)) = (0 : Int32) then (0 : Int64) else q2) = (0 : Int64)
  · by_cases hz : (q1 &&& (9223372036854775807 : Int64)) = (0 : Int64)
    · exact rm0B l Z a0 hw ws q1 q2 p3 h0 n0 Z0 hf hz
    · exact rm0D l Z a0 hw ws q1 q2 p3 h0 n0 Z0 hf hz
  · by_cases hw1 : (q1 &&& (9223372036854775807 : Int64)) = (9223372036854775807 : Int64)
    · exact rm0A l Z a0 hw ws q1 q2 p3 h0 n0 Z0 hw1 hf
    · exact rm0C l Z a0 hw ws q1 q2 p3 h0 n0 Z0 hw1 hf

set_option maxRecDepth 65536 in
set_option maxHeartbeats 40000000 in
theorem comes_1 {Post : Tables → Env → Array Value → State → Outcome → State → Prop} (hpost : ∀ tb e args s v u, (limb_1_1.after args s (.returned v) u = true ∧ limb_1_2.after args s (.returned v) u = true ∧ True) → FrameEnd s (.returned v) u (Jvm.fieldLocs frame_1_writes args s ++ Jvm.arrayLocs frame_1_arrays args s ++ Jvm.staticLocs frame_1_statics s) 16 128 → Post tb e args s (.returned v) u) :
    ArmFor flags0 classFile x code maxLocals ret World_1 tables_1 room_1 Calls_1 rest_1 Pre_1 Post := by
  intro l hfl _ _ p e ha hc hk s m args below hf hA hF happ hP
  obtain ⟨hcalls, hrest, hpre⟩ := hP
  obtain ⟨-, -, -, hnamed, -, -, -, hat⟩ := (Spec.applies_iff hf).mp happ
  obtain ⟨hg, hn⟩ := and_e (Cond.before_iff.mp (show (Jvm.Cond.and given_1 narrow_1).before args s = true from hpre))
  obtain ⟨g0, k0⟩ := and_e hg
  obtain ⟨g1, k1⟩ := and_e k0
  obtain ⟨g2, k2⟩ := and_e k1
  obtain ⟨w0, w1, w2, rfl⟩ : ∃ w0 w1 w2 : Value, args = #[w0, w1, w2] := by
    have hs : args.size = 3 := by simpa [Cond.value, given_1] using g0
    obtain ⟨L⟩ := args
    match L, hs with
    | [w0, w1, w2], _ => exact ⟨w0, w1, w2, rfl⟩
  have hw := fun d (hd : d ∈ tables_1) => atoms_spec (ws := Jvm.Cond.code x code maxLocals ret :: tables_1) hat d (List.mem_cons_of_mem _ hd)
  obtain ⟨i0, ei0⟩ := isL_v g1
  obtain rfl : w0 = (.long i0) := Option.some.inj ei0
  obtain ⟨i1, ei1⟩ := isL_v g2
  obtain rfl : w1 = (.long i1) := Option.some.inj ei1
  obtain ⟨i2, ei2⟩ := is_v k2
  obtain rfl : w2 = (.int i2) := Option.some.inj ei2
  obtain ⟨n, o, h1, h2, h3, _, L, rfl, ⟨rfl, N⟩, hq⟩ := rm0 l s _ hw tables_1 i0 i1 i2 s.heap s.heap.size (Nat.le_refl _) p e ha hc hk s m _ below hf ((Spec.applies_iff_loose hf).mp happ).1 ⟨rfl, State.Warmed39.refl s, rfl⟩ trivial
  refine ⟨n, _, h1, h2, h3, hpost _ _ _ _ _ _ ⟨Cond.after_iff.mpr rfl, Cond.after_iff.mpr (eq_i res_at (Term.int_eval (1)) rfl), trivial⟩ ⟨hq.1, hq.2.1, (hq.2.2.sift fun y hy => Or.inr (N y hy)).mono (by decide) (by decide)⟩⟩
theorem main_1_1 : Claimed_1_1 := comes_1 fun _ _ _ _ _ _ h hF => ⟨h.1, hF⟩
theorem main_1_2 : Claimed_1_2 := comes_1 fun _ _ _ _ _ _ h hF => ⟨h.2.1, hF⟩

end Jvm.Pilot.@@N@@
namespace Jvm.Pilot.@@N@@
open Jvm Jvm.ClassFile Sem Op Lib Jvm.Free Jvm.Stand Jvm.Pilot.@@N@@.Jvm.D
/-! MADE BY PROGRAM (witnessworld.py) out of the Statement's table words and the real class files: 15 classes; the members and pool entries that the words name. The judged class is class 1, her method 1. -/
namespace start1
open Jvm.ClassFile
def u (s : String) : CpInfo := .utf8 (stringToUtf16 s)
/-- a pool by its gaps: so many unusable entries, then the entry; so many at the end -/
def gap : Nat → List CpInfo → List CpInfo
  | 0, r => r
  | n + 1, r => .unusable :: gap n r
def poolList (es : List (Nat × CpInfo)) (last : Nat) : List CpInfo := es.foldr (fun e r => gap e.1 (e.2 :: r)) (gap last [])
def pool (es : List (Nat × CpInfo)) (last : Nat) : Array CpInfo := ⟨poolList es last⟩
def fileOf (pool : Array CpInfo) (this : Nat) (attrs : Array Attribute := #[]) (ms : Array MethodInfo := #[]) (fl : Nat := 33) (sup : Nat := 0) (ifs : Array Nat := #[]) (fds : Array FieldInfo := #[]) : ClassFile where
  minorVersion := 0
  majorVersion := 65
  constantPool := pool
  accessFlags := fl
  thisClass := this
  superClass := sup
  interfaces := ifs
  fields := fds
  methods := ms
  attributes := attrs
def plain (name : String) (sup : Option ClassId) : Class where
  name := name
  kind := .ordinary
  loader := none
  accessFlags := 33
  super := sup
  interfaces := #[]
  cf := none
  fields := #[]
  methods := #[]
  instanceTypes := #[]
  staticTypes := #[]
  resolved := #[]
  callSites := []
  init := .initialized
  statics := none
  mirror := none

def pool0 : Array CpInfo := pool [(5, u "<init>"), (0, u "()V"), (1, .class_ 10), (1, u "java/lang/Object")] 113

def k0c0 : Code := { maxStack := 0, maxLocals := 1, code := object_method_1_code, exceptionTable := #[], attributes := #[] }
def k0m0 : Method := { name := "<init>", desc := "()V", sig := { parameters := [], returnType := none }, accessFlags := 1, code := some k0c0 }
/-- java/lang/Object -/
def k0 : Class := { plain "java/lang/Object" none with
  accessFlags := 33
  interfaces := #[]
  cf := some (fileOf pool0 8 #[] #[{ accessFlags := 1, nameIndex := 5, descriptorIndex := 6, attributes := #[] }] 33 0 #[] #[])
  fields := #[]
  methods := #[k0m0]
  instanceTypes := #[]
  staticTypes := #[]
  resolved := Array.replicate 124 none
  statics := none }

def pool1 : Array CpInfo := pool [(2, .class_ 4), (1, u "java/lang/Object"), (0, u "<init>"), (0, u "()V"), (2, .long 9223372036854775807), (1, .class_ 12), (0, u "com/example/rate_gate/rategate/algorithm/Seconds"), (0, .methodref 11 14), (0, .nameAndType 5 15), (0, u "(JJ)V"), (0, .methodref 11 17), (0, .nameAndType 18 19), (0, u "roundedUp"), (0, u "()J"), (0, .methodref 11 21), (0, .nameAndType 22 23), (0, u "compareTo"), (0, u "(Lcom/example/rate_gate/rategate/algorithm/Seconds;)I"), (0, .class_ 25), (0, u "com/example/rate_gate/rategate/algorithm/SecondsRoundedUpPinLaw"), (2, u "law"), (0, u "(JJI)Z")] 3

def k1m0 : Method := { name := "<init>", desc := "()V", sig := { parameters := [], returnType := none }, accessFlags := 2, code := none }
def k1c1 : Code := { maxStack := 6, maxLocals := 14, code := code, exceptionTable := #[], attributes := #[] }
def k1m1 : Method := { name := "law", desc := "(JJI)Z", sig := { parameters := [.long, .long, .int], returnType := some .boolean }, accessFlags := 9, code := some k1c1 }
/-- com/example/rate_gate/rategate/algorithm/SecondsRoundedUpPinLaw -/
def k1 : Class := { plain "com/example/rate_gate/rategate/algorithm/SecondsRoundedUpPinLaw" (some 0) with
  accessFlags := 49
  interfaces := #[]
  cf := some (fileOf pool1 24 #[] #[{ accessFlags := 2, nameIndex := 5, descriptorIndex := 6, attributes := #[] }, { accessFlags := 9, nameIndex := 28, descriptorIndex := 29, attributes := #[] }] 49 2 #[] #[])
  fields := #[]
  methods := #[k1m0, k1m1]
  instanceTypes := #[]
  staticTypes := #[]
  resolved := Array.replicate 33 none
  statics := none }

def pool2 : Array CpInfo := pool [(1, .methodref 2 3), (0, .class_ 4), (0, .nameAndType 5 6), (0, u "java/lang/Object"), (0, u "<init>"), (0, u "()V"), (0, .class_ 8), (0, u "java/lang/Record")] 13

def k2c0 : Code := { maxStack := 1, maxLocals := 1, code := jdk_30_method_1_code, exceptionTable := #[], attributes := #[] }
def k2m0 : Method := { name := "<init>", desc := "()V", sig := { parameters := [], returnType := none }, accessFlags := 4, code := some k2c0 }
/-- java/lang/Record -/
def k2 : Class := { plain "java/lang/Record" (some 0) with
  accessFlags := 1057
  interfaces := #[]
  cf := some (fileOf pool2 7 #[] #[{ accessFlags := 4, nameIndex := 5, descriptorIndex := 6, attributes := #[] }] 1057 2 #[] #[])
  fields := #[]
  methods := #[k2m0]
  instanceTypes := #[]
  staticTypes := #[]
  resolved := Array.replicate 22 none
  statics := none }

def pool3 : Array CpInfo := pool [(1, .class_ 2), (0, u "java/lang/Comparable"), (0, .class_ 4), (0, u "java/lang/Object")] 7

/-- java/lang/Comparable -/
def k3 : Class := { plain "java/lang/Comparable" (some 0) with
  accessFlags := 1537
  interfaces := #[]
  cf := some (fileOf pool3 1 #[] #[] 1537 3 #[] #[])
  fields := #[]
  methods := #[]
  instanceTypes := #[]
  staticTypes := #[]
  resolved := Array.replicate 12 none
  statics := none }

def pool4 : Array CpInfo := pool [(1, .methodref 2 3), (0, .class_ 4), (0, .nameAndType 5 6), (0, u "java/lang/Record"), (0, u "<init>"), (0, u "()V"), (9, .fieldref 17 18), (0, .class_ 19), (0, .nameAndType 20 21), (0, u "com/example/rate_gate/rategate/algorithm/Seconds"), (0, u "whole"), (0, u "J"), (0, .fieldref 17 23), (0, .nameAndType 24 21), (0, u "fraction"), (8, u "(JJ)V"), (2, u "STEPS_PER_SECOND"), (0, u "Ljava/math/BigDecimal;"), (33, u "()J"), (8, .methodref 81 82), (0, .class_ 83), (0, .nameAndType 84 85), (0, u "java/lang/Long"), (0, u "compareUnsigned"), (0, u "(JJ)I"), (12, .methodref 81 99), (0, .nameAndType 100 85), (0, u "compare"), (2, u "compareTo"), (0, u "(Lcom/example/rate_gate/rategate/algorithm/Seconds;)I"), (11, .class_ 117), (0, u "com/example/rate_gate/rategate/algorithm/Seconds$InBytes"), (3, u "LAYOUT"), (0, u "Lcom/example/rate_gate/rategate/algorithm/Layout;"), (10, .class_ 134), (0, u "java/lang/Comparable"), (2, u "NANOS_PER_SECOND"), (14, u "roundedUp")] 38

def k4c0 : Code := { maxStack := 4, maxLocals := 5, code := prog_13_method_1_code, exceptionTable := #[], attributes := #[] }
def k4m0 : Method := { name := "<init>", desc := "(JJ)V", sig := { parameters := [.long, .long], returnType := none }, accessFlags := 1, code := some k4c0 }
def k4c1 : Code := { maxStack := 4, maxLocals := 1, code := prog_13_method_8_code, exceptionTable := #[], attributes := #[] }
def k4m1 : Method := { name := "roundedUp", desc := "()J", sig := { parameters := [], returnType := some .long }, accessFlags := 1, code := some k4c1 }
def k4c2 : Code := { maxStack := 4, maxLocals := 3, code := prog_13_method_10_code, exceptionTable := #[], attributes := #[] }
def k4m2 : Method := { name := "compareTo", desc := "(Lcom/example/rate_gate/rategate/algorithm/Seconds;)I", sig := { parameters := [(.object "com/example/rate_gate/rategate/algorithm/Seconds")], returnType := some .int }, accessFlags := 1, code := some k4c2 }
/-- com/example/rate_gate/rategate/algorithm/Seconds -/
def k4 : Class := { plain "com/example/rate_gate/rategate/algorithm/Seconds" (some 2) with
  accessFlags := 49
  interfaces := #[3]
  cf := some (fileOf pool4 17 #[.nestMembers #[116]] #[{ accessFlags := 1, nameIndex := 5, descriptorIndex := 33, attributes := #[] }, { accessFlags := 1, nameIndex := 152, descriptorIndex := 71, attributes := #[] }, { accessFlags := 1, nameIndex := 103, descriptorIndex := 104, attributes := #[] }] 49 2 #[133] #[{ accessFlags := 18, nameIndex := 20, descriptorIndex := 21, attributes := #[] }, { accessFlags := 18, nameIndex := 24, descriptorIndex := 21, attributes := #[] }, { accessFlags := 25, nameIndex := 121, descriptorIndex := 122, attributes := #[] }, { accessFlags := 26, nameIndex := 137, descriptorIndex := 21, attributes := #[] }, { accessFlags := 26, nameIndex := 36, descriptorIndex := 37, attributes := #[] }])
  fields := #[{ name := "whole", type := .long, accessFlags := 18, slot := 0, constantValue := 0 }, { name := "fraction", type := .long, accessFlags := 18, slot := 1, constantValue := 0 }, { name := "LAYOUT", type := (.object "com/example/rate_gate/rategate/algorithm/Layout"), accessFlags := 25, slot := 0, constantValue := 0 }, { name := "NANOS_PER_SECOND", type := .long, accessFlags := 26, slot := 1, constantValue := 0 }, { name := "STEPS_PER_SECOND", type := (.object "java/math/BigDecimal"), accessFlags := 26, slot := 2, constantValue := 0 }]
  methods := #[k4m0, k4m1, k4m2]
  instanceTypes := #[.long, .long]
  staticTypes := #[(.object "com/example/rate_gate/rategate/algorithm/Layout"), .long, (.object "java/math/BigDecimal")]
  resolved := Array.replicate 191 none
  statics := none }

def pool5 : Array CpInfo := pool [(1, .class_ 2), (0, u "java/io/Serializable"), (0, .class_ 4), (0, u "java/lang/Object")] 2

/-- java/io/Serializable -/
def k5 : Class := { plain "java/io/Serializable" (some 0) with
  accessFlags := 1537
  interfaces := #[]
  cf := some (fileOf pool5 1 #[] #[] 1537 3 #[] #[])
  fields := #[]
  methods := #[]
  instanceTypes := #[]
  staticTypes := #[]
  resolved := Array.replicate 7 none
  statics := none }

def pool6 : Array CpInfo := pool [(2, .class_ 4), (1, u "java/lang/Object"), (0, u "<init>"), (0, u "()V"), (1, .class_ 10), (1, u "java/lang/Number"), (2, .class_ 14), (0, u "java/io/Serializable"), (0, u "serialVersionUID"), (0, u "J")] 20

def k6m0 : Method := { name := "<init>", desc := "()V", sig := { parameters := [], returnType := none }, accessFlags := 1, code := none }
/-- java/lang/Number -/
def k6 : Class := { plain "java/lang/Number" (some 0) with
  accessFlags := 1057
  interfaces := #[5]
  cf := some (fileOf pool6 8 #[] #[{ accessFlags := 1, nameIndex := 5, descriptorIndex := 6, attributes := #[] }] 1057 2 #[13] #[{ accessFlags := 26, nameIndex := 15, descriptorIndex := 16, attributes := #[] }])
  fields := #[{ name := "serialVersionUID", type := .long, accessFlags := 26, slot := 0, constantValue := 0 }]
  methods := #[k6m0]
  instanceTypes := #[]
  staticTypes := #[.long]
  resolved := Array.replicate 37 none
  statics := none }

def pool7 : Array CpInfo := pool [(1, .class_ 2), (0, u "java/lang/constant/Constable"), (0, .class_ 4), (0, u "java/lang/Object")] 6

/-- java/lang/constant/Constable -/
def k7 : Class := { plain "java/lang/constant/Constable" (some 0) with
  accessFlags := 1537
  interfaces := #[]
  cf := some (fileOf pool7 1 #[] #[] 1537 3 #[] #[])
  fields := #[]
  methods := #[]
  instanceTypes := #[]
  staticTypes := #[]
  resolved := Array.replicate 11 none
  statics := none }

def pool8 : Array CpInfo := pool [(1, .class_ 2), (0, u "java/lang/constant/ConstantDesc"), (0, .class_ 4), (0, u "java/lang/Object")] 32

/-- java/lang/constant/ConstantDesc -/
def k8 : Class := { plain "java/lang/constant/ConstantDesc" (some 0) with
  accessFlags := 1537
  interfaces := #[]
  cf := some (fileOf pool8 1 #[] #[] 1537 3 #[] #[])
  fields := #[]
  methods := #[]
  instanceTypes := #[]
  staticTypes := #[]
  resolved := Array.replicate 37 none
  statics := none }

def pool9 : Array CpInfo := pool [(1, .class_ 2), (0, u "java/lang/Long"), (165, .long 9223372036854775808), (66, .class_ 237), (1, u "java/lang/Long$LongCache"), (33, .class_ 272), (0, u "java/lang/Number"), (2, u "value"), (0, u "J"), (25, .methodref 1 303), (0, .nameAndType 304 305), (0, u "compare"), (0, u "(JJ)I"), (55, u "TYPE"), (0, u "Ljava/lang/Class;"), (0, .class_ 364), (0, u "java/lang/Comparable"), (0, .class_ 366), (0, u "java/lang/constant/Constable"), (0, .class_ 368), (0, u "java/lang/constant/ConstantDesc"), (0, u "MIN_VALUE"), (1, u "MAX_VALUE"), (4, u "SIZE"), (0, u "I"), (1, u "BYTES"), (1, u "serialVersionUID"), (87, u "compareUnsigned")] 54

def k9c0 : Code := { maxStack := 4, maxLocals := 4, code := jdk_35_method_42_code, exceptionTable := #[], attributes := #[] }
def k9m0 : Method := { name := "compare", desc := "(JJ)I", sig := { parameters := [.long, .long], returnType := some .int }, accessFlags := 9, code := some k9c0 }
def k9c1 : Code := { maxStack := 6, maxLocals := 4, code := jdk_35_method_43_code, exceptionTable := #[], attributes := #[] }
def k9m1 : Method := { name := "compareUnsigned", desc := "(JJ)I", sig := { parameters := [.long, .long], returnType := some .int }, accessFlags := 9, code := some k9c1 }
/-- java/lang/Long -/
def k9 : Class := { plain "java/lang/Long" (some 6) with
  accessFlags := 49
  interfaces := #[3, 7, 8]
  cf := some (fileOf pool9 1 #[.nestMembers #[235]] #[{ accessFlags := 9, nameIndex := 304, descriptorIndex := 305, attributes := #[] }, { accessFlags := 9, nameIndex := 469, descriptorIndex := 305, attributes := #[] }] 49 271 #[363, 365, 367] #[{ accessFlags := 25, nameIndex := 369, descriptorIndex := 276, attributes := #[] }, { accessFlags := 25, nameIndex := 371, descriptorIndex := 276, attributes := #[] }, { accessFlags := 25, nameIndex := 361, descriptorIndex := 362, attributes := #[] }, { accessFlags := 18, nameIndex := 275, descriptorIndex := 276, attributes := #[] }, { accessFlags := 25, nameIndex := 376, descriptorIndex := 377, attributes := #[] }, { accessFlags := 25, nameIndex := 379, descriptorIndex := 377, attributes := #[] }, { accessFlags := 26, nameIndex := 381, descriptorIndex := 276, attributes := #[] }])
  fields := #[{ name := "MIN_VALUE", type := .long, accessFlags := 25, slot := 0, constantValue := 0 }, { name := "MAX_VALUE", type := .long, accessFlags := 25, slot := 1, constantValue := 0 }, { name := "TYPE", type := (.object "java/lang/Class"), accessFlags := 25, slot := 2, constantValue := 0 }, { name := "value", type := .long, accessFlags := 18, slot := 0, constantValue := 0 }, { name := "SIZE", type := .int, accessFlags := 25, slot := 3, constantValue := 0 }, { name := "BYTES", type := .int, accessFlags := 25, slot := 4, constantValue := 0 }, { name := "serialVersionUID", type := .long, accessFlags := 26, slot := 5, constantValue := 0 }]
  methods := #[k9m0, k9m1]
  instanceTypes := #[.long]
  staticTypes := #[.long, .long, (.object "java/lang/Class"), .int, .int, .long]
  resolved := Array.replicate 524 none
  statics := none }

def pool10 : Array CpInfo := pool [(1, u "java/lang/Cloneable"), (0, .class_ 1), (0, u "java/lang/Object"), (0, .class_ 3)] 3

/-- java/lang/Cloneable -/
def k10 : Class := { plain "java/lang/Cloneable" (some 0) with
  accessFlags := 1537
  interfaces := #[]
  cf := some (fileOf pool10 2 #[] #[] 1537 4 #[] #[])
  fields := #[]
  methods := #[]
  instanceTypes := #[]
  staticTypes := #[]
  resolved := Array.replicate 8 none
  statics := none }

/-- the primitive byte -/
def k11 : Class := { plain "byte" none with kind := .primitive 'B', accessFlags := 0x411 }
/-- [B -/
def k12 : Class := { plain "[B" (some 0) with kind := .array 11 .byte, interfaces := #[10, 5], accessFlags := 1041 }

/-- the primitive int -/
def k13 : Class := { plain "int" none with kind := .primitive 'I', accessFlags := 0x411 }
/-- [I -/
def k14 : Class := { plain "[I" (some 0) with kind := .array 13 .int, interfaces := #[10, 5], accessFlags := 1041 }

def heap : Heap := #[]
def classes : Array Class := #[k0, k1, k2, k3, k4, k5, k6, k7, k8, k9, k10, k11, k12, k13, k14]
def interned : List (Array UInt16 × Addr) := []
def slotsUsed : Nat := 0
def theMethod : MethodId := ⟨1, 1⟩
def args0 : Array Value := #[.long 5, .long 7, .int 1]
def aboutOver (below : List Frame) : State where
  vm := { classes := classes, interned := interned.toArray }
  heap := heap
  slotsUsed := slotsUsed
  threads := #[{ frames := .invoking theMethod args0 :: below }]
def below0 : List Frame := [.native { method := ⟨0, 0⟩, args := #[] }]
def about1 : State := aboutOver below0
def p0 : Program := .bare "" "" ""
def e0 : Env := launch0.env 0 0 0
theorem w_frames : about1.frames = Frame.invoking theMethod args0 :: below0 := rfl
set_option maxRecDepth 65536 in
theorem w_args : argsFit about1.vm theMethod args0 = true := by decide +kernel
set_option maxRecDepth 65536 in
theorem w_heap : heapFits about1 = true := by decide +kernel
set_option maxRecDepth 65536 in
theorem w_runnable : about1.curStatus? = some .runnable := by decide +kernel
set_option maxRecDepth 65536 in
theorem w_alone : about1.alone = true := by decide +kernel
set_option maxRecDepth 65536 in
theorem w_named : about1.methodNamed? x = some theMethod := by decide +kernel
set_option maxRecDepth 65536 in
theorem w_hears : about1.hears theMethod below0 = true := by decide +kernel
set_option maxRecDepth 65536 in
theorem w_ripe : about1.ripe theMethod args0 below0 = true := by decide +kernel
theorem w_running : about1.status = .running := rfl
set_option maxRecDepth 65536 in
theorem w_room : about1.hasRoom e0.platform room_1 = true :=
  launch0.hasRoom_least _ room_1 (by decide +kernel) (by decide +kernel) (by decide +kernel) (by decide +kernel) (by decide +kernel) (by decide +kernel)
theorem allAtoms_all (ts : List Jvm.Cond) (a : Array Jvm.Value) (st : Jvm.State) : (allAtoms ts).before a st = ts.all (fun c => c.before a st) := by
  induction ts with
  | nil => rfl
  | cons c t ih =>
    show (Jvm.Cond.and c (allAtoms t)).before a st = _
    rw [Jvm.Cond.before_and, ih, List.all_cons]
def words1 : List Jvm.Cond := Jvm.Cond.code x code maxLocals ret :: tables_1
/-- a 'code' word, met by the world's own term for the bytes: nothing is compared byte by byte -/
theorem code_word {y : MethodName} {bytes : ByteArray} {mx : Nat} {rt : Option FieldType} {a : Array Value} {s : State} {m : MethodId} {meth : Method} {c : Code} (h1 : s.methodNamed? y = some m) (h2 : s.vm.method? m = some meth) (h3 : meth.code = some c) (h4 : c.code = bytes)
    (h5 : (c.maxLocals == mx && c.exceptionTable.isEmpty && decide (c.maxStack ≤ mostOperands) && decide (meth.sig.returnType = rt) && !meth.locks && decide (parseMethodDescriptor y.desc = some meth.sig)) = true) : (Jvm.Cond.code y bytes mx rt).before a s = true := by
  simp only [Bool.and_eq_true, beq_iff_eq, Bool.not_eq_true', decide_eq_true_eq] at h5
  obtain ⟨⟨⟨⟨⟨g1, g2⟩, g3⟩, g4⟩, g5⟩, g6⟩ := h5
  simp [Cond.before, Cond.holds, Cond.value, h1, h2, h3, h4, g1, g2, g3, g4, g5, g6]
def isCode : Jvm.Cond → Bool
  | .code _ _ _ _ => true
  | _ => false
theorem all_split {L : List Jvm.Cond} {P : Jvm.Cond → Bool} (h1 : L.all (fun c => isCode c || P c) = true) (h2 : ∀ c ∈ L.filter isCode, P c = true) : L.all P = true := by
  refine List.all_eq_true.mpr fun c hc => ?_
  have h := List.all_eq_true.mp h1 c hc
  rcases Bool.eq_false_or_eq_true (isCode c) with hi | hi
  · exact h2 c (List.mem_filter.mpr ⟨hc, hi⟩)
  · simpa [hi] using h
set_option maxRecDepth 65536 in
theorem w_c0 : (Jvm.Cond.code x code maxLocals ret).before args0 about1 = true := code_word (m := ⟨1, 1⟩) (meth := k1m1) (c := k1c1) (by decide +kernel) rfl rfl rfl (by decide +kernel)
set_option maxRecDepth 65536 in
theorem w_c1 : (Jvm.Cond.code ({ cls := "com/example/rate_gate/rategate/algorithm/Seconds", name := "<init>", desc := "(JJ)V" } : Jvm.MethodName) prog_13_method_1_code (5 : Nat) (Option.none : Option Jvm.ClassFile.FieldType)).before args0 about1 = true := code_word (m := ⟨4, 0⟩) (meth := k4m0) (c := k4c0) (by decide +kernel) rfl rfl rfl (by decide +kernel)
set_option maxRecDepth 65536 in
theorem w_c2 : (Jvm.Cond.code ({ cls := "java/lang/Record", name := "<init>", desc := "()V" } : Jvm.MethodName) jdk_30_method_1_code (1 : Nat) (Option.none : Option Jvm.ClassFile.FieldType)).before args0 about1 = true := code_word (m := ⟨2, 0⟩) (meth := k2m0) (c := k2c0) (by decide +kernel) rfl rfl rfl (by decide +kernel)
set_option maxRecDepth 65536 in
theorem w_c3 : (Jvm.Cond.code ({ cls := "java/lang/Object", name := "<init>", desc := "()V" } : Jvm.MethodName) object_method_1_code (1 : Nat) (Option.none : Option Jvm.ClassFile.FieldType)).before args0 about1 = true := code_word (m := ⟨0, 0⟩) (meth := k0m0) (c := k0c0) (by decide +kernel) rfl rfl rfl (by decide +kernel)
set_option maxRecDepth 65536 in
theorem w_c4 : (Jvm.Cond.code ({ cls := "com/example/rate_gate/rategate/algorithm/Seconds", name := "roundedUp", desc := "()J" } : Jvm.MethodName) prog_13_method_8_code (1 : Nat) (Option.some Jvm.ClassFile.FieldType.long)).before args0 about1 = true := code_word (m := ⟨4, 1⟩) (meth := k4m1) (c := k4c1) (by decide +kernel) rfl rfl rfl (by decide +kernel)
set_option maxRecDepth 65536 in
theorem w_c5 : (Jvm.Cond.code ({ cls := "com/example/rate_gate/rategate/algorithm/Seconds", name := "compareTo", desc := "(Lcom/example/rate_gate/rategate/algorithm/Seconds;)I" } : Jvm.MethodName) prog_13_method_10_code (3 : Nat) (Option.some Jvm.ClassFile.FieldType.int)).before args0 about1 = true := code_word (m := ⟨4, 2⟩) (meth := k4m2) (c := k4c2) (by decide +kernel) rfl rfl rfl (by decide +kernel)
set_option maxRecDepth 65536 in
theorem w_c6 : (Jvm.Cond.code ({ cls := "java/lang/Long", name := "compare", desc := "(JJ)I" } : Jvm.MethodName) jdk_35_method_42_code (4 : Nat) (Option.some Jvm.ClassFile.FieldType.int)).before args0 about1 = true := code_word (m := ⟨9, 0⟩) (meth := k9m0) (c := k9c0) (by decide +kernel) rfl rfl rfl (by decide +kernel)
set_option maxRecDepth 65536 in
theorem w_c7 : (Jvm.Cond.code ({ cls := "java/lang/Long", name := "compareUnsigned", desc := "(JJ)I" } : Jvm.MethodName) jdk_35_method_43_code (4 : Nat) (Option.some Jvm.ClassFile.FieldType.int)).before args0 about1 = true := code_word (m := ⟨9, 1⟩) (meth := k9m1) (c := k9c1) (by decide +kernel) rfl rfl rfl (by decide +kernel)
def codes1 : List Jvm.Cond := [Jvm.Cond.code x code maxLocals ret, Jvm.Cond.code ({ cls := "com/example/rate_gate/rategate/algorithm/Seconds", name := "<init>", desc := "(JJ)V" } : Jvm.MethodName) prog_13_method_1_code (5 : Nat) (Option.none : Option Jvm.ClassFile.FieldType), Jvm.Cond.code ({ cls := "java/lang/Record", name := "<init>", desc := "()V" } : Jvm.MethodName) jdk_30_method_1_code (1 : Nat) (Option.none : Option Jvm.ClassFile.FieldType), Jvm.Cond.code ({ cls := "java/lang/Object", name := "<init>", desc := "()V" } : Jvm.MethodName) object_method_1_code (1 : Nat) (Option.none : Option Jvm.ClassFile.FieldType), Jvm.Cond.code ({ cls := "com/example/rate_gate/rategate/algorithm/Seconds", name := "roundedUp", desc := "()J" } : Jvm.MethodName) prog_13_method_8_code (1 : Nat) (Option.some Jvm.ClassFile.FieldType.long), Jvm.Cond.code ({ cls := "com/example/rate_gate/rategate/algorithm/Seconds", name := "compareTo", desc := "(Lcom/example/rate_gate/rategate/algorithm/Seconds;)I" } : Jvm.MethodName) prog_13_method_10_code (3 : Nat) (Option.some Jvm.ClassFile.FieldType.int), Jvm.Cond.code ({ cls := "java/lang/Long", name := "compare", desc := "(JJ)I" } : Jvm.MethodName) jdk_35_method_42_code (4 : Nat) (Option.some Jvm.ClassFile.FieldType.int), Jvm.Cond.code ({ cls := "java/lang/Long", name := "compareUnsigned", desc := "(JJ)I" } : Jvm.MethodName) jdk_35_method_43_code (4 : Nat) (Option.some Jvm.ClassFile.FieldType.int)]
set_option maxRecDepth 65536 in
theorem codes_eq : words1.filter isCode = codes1 := rfl
theorem w_codes : ∀ c ∈ words1.filter isCode, c.before args0 about1 = true := by
  rw [codes_eq]
  intro c hc
  simp only [codes1, List.mem_cons, List.not_mem_nil, or_false] at hc
  rcases hc with rfl | rfl | rfl | rfl | rfl | rfl | rfl | rfl
  · exact w_c0
  · exact w_c1
  · exact w_c2
  · exact w_c3
  · exact w_c4
  · exact w_c5
  · exact w_c6
  · exact w_c7
set_option maxRecDepth 65536 in
theorem w_t1 : (words1.take 24).all (fun c => isCode c || c.before args0 about1) = true := by decide +kernel
set_option maxRecDepth 65536 in
theorem w_t2 : (words1.drop 24).all (fun c => isCode c || c.before args0 about1) = true := by decide +kernel
theorem w_tables : (allAtoms (Jvm.Cond.code x code maxLocals ret :: tables_1)).before args0 about1 = true := by
  rw [allAtoms_all]
  show words1.all (fun c => c.before args0 about1) = true
  refine all_split ?_ w_codes
  rw [← List.take_append_drop 24 words1, List.all_append, w_t1, w_t2]
  rfl
set_option maxRecDepth 65536 in
theorem w_case : (Jvm.Cond.and given_1 narrow_1).before args0 about1 = true := by decide +kernel
theorem w_applies : (headSpec (Jvm.Cond.code x code maxLocals ret :: tables_1) room_1).applies x e0.platform about1 = true :=
  (Spec.applies_iff w_frames).mpr ⟨w_running, w_runnable, w_alone, w_named, w_hears, w_ripe, w_room, w_tables⟩
theorem atStart : AtStart classFile x code maxLocals ret World_1 tables_1 room_1 Calls_1 rest_1 Pre_1 launch0 p0 e0 about1 theMethod args0 below0 :=
  ⟨lists_1, trivial, launch0.admits_env _ _ _, launch0.least_env, fairChoices_fair.cas, fairChoices_fair.clock, w_frames, w_args, w_heap, w_applies, trivial, trivial, w_case⟩
end start1
theorem witness_1 : WitnessClaimed_1 := ⟨start1.p0, start1.e0, start1.about1, start1.theMethod, start1.args0, start1.below0, start1.atStart⟩
end Jvm.Pilot.@@N@@
