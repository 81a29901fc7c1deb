import JvmDerived
import JvmDerived.Pilot.@@N@@Statement
import JvmDerived.Pilot.@@N@@Code
set_option linter.unusedVariables false
set_option linter.unusedSimpArgs false

namespace Jvm.Pilot.@@N@@
open Jvm Jvm.ClassFile Sem Op Lib Jvm.Free Jvm.Stand Jvm.LawKit Jvm.RoadKit Bundle Jvm.Pilot.@@N@@.Jvm.D

def own_v (s t : Int32) (l : Int64) : Int64 := (((s.toInt64) <<< ((46 : Int32) &&& 0x3f).toInt64) ||| ((t.toInt64) <<< ((36 : Int32) &&& 0x3f).toInt64)) ||| l
theorem own_sh {a s : Int32} (h : s = (a &&& (65535 : Int32))) : (¬ s < (0 : Int32)) ∧ (¬ (65535 : Int32) < s) ∧ (0 ≤ s.toInt ∧ s.toInt ≤ 65535) := by
  have h1 := c_mask a (65535 : Int32) 16 (by decide) (by decide)
  rw [← h] at h1
  have e0 : (0 : Int32).toInt = 0 := rfl
  have e1 : (65535 : Int32).toInt = 65535 := rfl
  rw [Int32.lt_iff_toInt_lt, Int32.lt_iff_toInt_lt, e0, e1]
  omega
theorem own_ty {a s : Int32} (h : s = (a &&& (1023 : Int32))) : (¬ s < (0 : Int32)) ∧ (¬ (1023 : Int32) < s) ∧ (0 ≤ s.toInt ∧ s.toInt ≤ 1023) := by
  have h1 := c_mask a (1023 : Int32) 10 (by decide) (by decide)
  rw [← h] at h1
  have e0 : (0 : Int32).toInt = 0 := rfl
  have e1 : (1023 : Int32).toInt = 1023 := rfl
  rw [Int32.lt_iff_toInt_lt, Int32.lt_iff_toInt_lt, e0, e1]
  omega
theorem own_lo {a s : Int64} (h : s = (a &&& (68719476735 : Int64))) : (¬ s < (0 : Int64)) ∧ (¬ (68719476735 : Int64) < s) ∧ (0 ≤ s.toInt ∧ s.toInt ≤ 68719476735) := by
  have h1 := c_maskL a (68719476735 : Int64) 36 (by decide) (by decide)
  rw [← h] at h1
  have e0 : (0 : Int64).toInt = 0 := rfl
  have e1 : (68719476735 : Int64).toInt = 68719476735 := rfl
  rw [Int64.lt_iff_toInt_lt, Int64.lt_iff_toInt_lt, e0, e1]
  omega
theorem own_val {s t : Int32} {l : Int64} (hs : 0 ≤ s.toInt ∧ s.toInt ≤ 65535) (ht : 0 ≤ t.toInt ∧ t.toInt ≤ 1023) (hl : 0 ≤ l.toInt ∧ l.toInt ≤ 68719476735) :
    (own_v s t l).toInt = s.toInt * 70368744177664 + t.toInt * 68719476736 + l.toInt := by
  unfold own_v
  have s0 := c_i2l s
  have t0 := c_i2l t
  have s1 := c_lshl s.toInt64 (46 : Int32) 46 (by decide)
  have t1 := c_lshl t.toInt64 (36 : Int32) 36 (by decide)
  rw [s0] at s1
  rw [t0] at t1
  generalize (s.toInt64 <<< ((46 : Int32) &&& 0x3f).toInt64) = A at *
  generalize (t.toInt64 <<< ((36 : Int32) &&& 0x3f).toInt64) = B at *
  have rA := rng64 A
  have rB := rng64 B
  have eA : A.toInt = s.toInt * 70368744177664 := by omega
  have eB : B.toInt = t.toInt * 68719476736 := by omega
  have o1 := c_orL A B 46 (by decide) 70368744177664 (by decide) (by omega) (by omega) (by omega)
  have r1 := rng64 (A ||| B)
  have e1 : (A ||| B).toInt = A.toInt + B.toInt := by omega
  have o2 := c_orL (A ||| B) l 36 (by decide) 68719476736 (by decide) (by omega) (by omega) (by omega)
  have r2 := rng64 (A ||| B ||| l)
  omega
theorem own_i1 {a b c v : Int} (ha : 0 ≤ a ∧ a ≤ 65535) (hb : 0 ≤ b ∧ b ≤ 1023) (hc : 0 ≤ c ∧ c ≤ 68719476735) (hv : v = a * 70368744177664 + b * 68719476736 + c) : 0 ≤ v ∧ v ≤ 4611686018427387903 := by omega
theorem own_i2 {a b c v : Int} (ha : 0 ≤ a ∧ a ≤ 65535) (hb : 0 ≤ b ∧ b ≤ 1023) (hc : 0 ≤ c ∧ c ≤ 68719476735) (hv : v = a * 70368744177664 + b * 68719476736 + c) : v / 70368744177664 = a := by omega
theorem own_i3 {a b c v : Int} (hb : 0 ≤ b ∧ b ≤ 1023) (hc : 0 ≤ c ∧ c ≤ 68719476735) (hv : v = a * 70368744177664 + b * 68719476736 + c) : v / 68719476736 % 1024 = b := by omega
theorem own_i4 {a b c v : Int} (hc : 0 ≤ c ∧ c ≤ 68719476735) (hv : v = a * 70368744177664 + b * 68719476736 + c) : v % 68719476736 = c := by omega
theorem own_i5 {x y : Int} (h : (x - y) % 18446744073709551616 = 0) (hx : -9223372036854775808 ≤ x ∧ x < 9223372036854775808) (hy : 0 ≤ y ∧ y ≤ 4611686018427387903) : x = y := by omega
theorem own_i6 {a b c : Int} (ha : 0 ≤ a ∧ a ≤ 65535) (hb : 0 ≤ b ∧ b ≤ 1023) (hc : 0 ≤ c ∧ c ≤ 68719476735) : (0 ≤ a * 70368744177664 ∧ a * 70368744177664 ≤ 4611686018427387903) ∧ (0 ≤ b * 68719476736 ∧ b * 68719476736 ≤ 4611686018427387903) ∧ (0 ≤ a * 70368744177664 + b * 68719476736 ∧ a * 70368744177664 + b * 68719476736 ≤ 4611686018427387903) ∧ (0 ≤ a * 70368744177664 + b * 68719476736 + c ∧ a * 70368744177664 + b * 68719476736 + c ≤ 4611686018427387903) := by omega
theorem own_t46 : (70368744177664 : Int64).toInt = 70368744177664 := by decide
theorem own_t36 : (68719476736 : Int64).toInt = 68719476736 := by decide
theorem own_t10 : (1024 : Int64).toInt = 1024 := by decide
theorem own_tmax : (4611686018427387903 : Int64).toInt = 4611686018427387903 := by decide
theorem own_prod {s t : Int32} {l : Int64} (hs : 0 ≤ s.toInt ∧ s.toInt ≤ 65535) (ht : 0 ≤ t.toInt ∧ t.toInt ≤ 1023) (hl : 0 ≤ l.toInt ∧ l.toInt ≤ 68719476735) :
    (((s.toInt64 * (70368744177664 : Int64)) + (t.toInt64 * (68719476736 : Int64))) + l).toInt = s.toInt * 70368744177664 + t.toInt * 68719476736 + l.toInt := by
  obtain ⟨b1, b2, b3, b4⟩ := own_i6 hs ht hl
  have a1 := c_lmul s.toInt64 (70368744177664 : Int64)
  have a2 := c_lmul t.toInt64 (68719476736 : Int64)
  rw [c_i2l, own_t46] at a1
  rw [c_i2l, own_t36] at a2
  have e1 := own_i5 a1 (rng64 _) b1
  have e2 := own_i5 a2 (rng64 _) b2
  have a3 := c_ladd (s.toInt64 * (70368744177664 : Int64)) (t.toInt64 * (68719476736 : Int64))
  rw [e1, e2] at a3
  have e3 := own_i5 a3 (rng64 _) b3
  have a4 := c_ladd ((s.toInt64 * (70368744177664 : Int64)) + (t.toInt64 * (68719476736 : Int64))) l
  rw [e3] at a4
  exact own_i5 a4 (rng64 _) b4
theorem own_all {s t : Int32} {l : Int64} (hs : 0 ≤ s.toInt ∧ s.toInt ≤ 65535) (ht : 0 ≤ t.toInt ∧ t.toInt ≤ 1023) (hl : 0 ≤ l.toInt ∧ l.toInt ≤ 68719476735) :
    (¬ own_v s t l < (0 : Int64)) ∧ (¬ (4611686018427387903 : Int64) < own_v s t l) ∧ ((own_v s t l / (70368744177664 : Int64)) = s.toInt64) ∧
    ((((own_v s t l) / (68719476736 : Int64)) - (((own_v s t l) / (68719476736 : Int64)) / (1024 : Int64)) * (1024 : Int64)) = t.toInt64) ∧
    (((own_v s t l) - ((own_v s t l) / (68719476736 : Int64)) * (68719476736 : Int64)) = l) ∧
    ((own_v s t l) = (((s.toInt64 * (70368744177664 : Int64)) + (t.toInt64 * (68719476736 : Int64))) + l)) := by
  have hv := own_val hs ht hl
  obtain ⟨V, hV⟩ : ∃ z : Int64, z = own_v s t l := ⟨_, rfl⟩
  rw [← hV] at hv ⊢
  obtain ⟨p0, pm⟩ := own_i1 hs ht hl hv
  have e0 : (0 : Int64).toInt = 0 := rfl
  have d1 := (c_ldiv V (70368744177664 : Int64) 70368744177664 own_t46 (by decide)).1 p0
  have d2 := (c_ldiv V (68719476736 : Int64) 68719476736 own_t36 (by decide)).1 p0
  have m1 := (c_lrem V (68719476736 : Int64) 68719476736 own_t36).1 p0
  have p1 : 0 ≤ (V / (68719476736 : Int64)).toInt := by rw [d2]; exact Int.ediv_nonneg p0 (by decide)
  have m2 := (c_lrem (V / (68719476736 : Int64)) (1024 : Int64) 1024 own_t10).1 p1
  refine ⟨?_, ?_, ?_, ?_, ?_, ?_⟩
  · rw [Int64.lt_iff_toInt_lt, e0]; exact Int.not_lt.mpr p0
  · rw [Int64.lt_iff_toInt_lt, own_tmax]; exact Int.not_lt.mpr pm
  · refine Int64.toInt_inj.mp ?_
    rw [d1, c_i2l]; exact own_i2 hs ht hl hv
  · refine Int64.toInt_inj.mp ?_
    rw [m2, d2, c_i2l]; exact own_i3 ht hl hv
  · refine Int64.toInt_inj.mp ?_
    rw [m1]; exact own_i4 hl hv
  · refine Int64.toInt_inj.mp ?_
    rw [hv]; exact (own_prod hs ht hl).symm

theorem d2_0 : decode jdk_30_method_1_code 0 = .ok (.aload_n 0, 1) := by decide +kernel
theorem d2_1 : decode jdk_30_method_1_code 1 = .ok (.invokespecial 1, 3) := by decide +kernel
theorem d2_4 : decode jdk_30_method_1_code 4 = .ok (.return_, 1) := by decide +kernel
theorem pn_1 : plainName "java/lang/Record" = true := by first | (simp [plainName, overriddenIn]; done) | decide +kernel
theorem ef_2 (m : MethodId) (x0 : Addr) : entryFrame m #[(.ref x0)] 1 = mkF m 0 #[.val (.ref x0)] [] := by first | (simp [entryFrame, mkF, argsToLocals, Value.category]; done) | rfl
def Q2 (Z : State) (a1 : Addr)  (h0 : Heap) (n0 : Nat) (v : Option Value) (h : Heap) (L : List Loc) : Prop := v = none ∧ Fr n0 L ∧ h = h0
set_option maxRecDepth 65536 in
set_option maxHeartbeats 40000000 in
theorem rm2 (l : Launch) (Z : State) (a0 : Array Value) (hw : ∀ d ∈ tables_1, d.before a0 Z = true) (ws : List Jvm.Cond) (a1 : Addr)  (h0 : Heap) (n0 : Nat) (Z0 : n0 ≤ h0.size)  :
    MetFree l (⟨"java/lang/Record", "<init>", "()V"⟩ : MethodName) (head1 (Jvm.Cond.code (⟨"java/lang/Record", "<init>", "()V"⟩ : MethodName) jdk_30_method_1_code 1 none :: ws) ({ frames := 1, cells := 0, slots := 0, locals := 12 } : Room)) (fun a U => a = #[(.ref a1)] ∧ Z.Warmed39 U.vm ∧ U.heap = h0) (fun _ _ _ _ _ => True) (fun _ U o U' => ∃ v L, o = .returned v ∧ Q2 Z a1  h0 n0 v U'.heap L ∧ FrameEnd U o U' L ({ frames := 1, cells := 0, slots := 0, locals := 12 } : Room).cells ({ frames := 1, cells := 0, slots := 0, locals := 12 } : Room).slots) := by
  refine MetFree.of_bodySF (plainFor_of_name pn_1) hisR ?_
  intro p e s m args below meth c s₁ Bd hml0 hP hK
  obtain ⟨rfl, hZ, hh⟩ := hP
  have hx := Bd.exec
  have hby := Bd.bytes
  have hml : c.maxLocals = 1 := hml0
  have hown : s.vm.findClass "java/lang/Record" = some m.cls := findClass_of_methodNamed Bd.named
  have hnm := (name_of_methodNamed Bd.named Bd.method).1
  have X0 : Stand p l e ({ frames := 1, cells := 0, slots := 0, locals := 12 } : Room) s m #[(.ref a1)] below meth c s₁ [] 0 0 := Stand.of_body Bd
  have e0 : s₁.heap = h0 := by rw [← hh, Bd.state]; rfl
  have N0 := Fr.nil n0
  have pre0 : ∀ t, Steps p.tables e below (s₁.setTop (mkF m 0 #[.val (.ref a1)] [])) t → Steps p.tables e below (s₁.setTop (entryFrame m #[(.ref a1)] 1)) t := fun t k => castTop (ef_2 m a1) k
  obtain ⟨T1, X1, e1, st1⟩ := initO X0 hx hZ hown (hw _ (List.mem_of_getElem? (i := 13) rfl)) (hw _ (List.mem_of_getElem? (i := 14) rfl)) (hw _ (List.mem_of_getElem? (i := 15) rfl)) e0 (g := (mkF m 1 #[.val (.ref a1)] [(.ref a1)])) rfl (by rw [hml]; rfl) rfl (hb hby d2_1) (by decide) (W := 0) (by show 2 * 0 + _ ≤ _; exact Nat.le_of_eq rfl) (by decide)
  obtain ⟨fs, hr, hrun, hended, hW, hsame⟩ := X1.leave (v := none) (fun _ => rfl)
  refine ⟨_, _, pre0 _ ?_, hrun, hended, _, _, rfl, ?_, ⟨_, rfl⟩, hW, hsame.mono (by decide) (by decide)⟩
  · show Steps p.tables e below (s₁.setTop (mkF m 0 #[.val (.ref a1)] [])) _
    refine XS.aloadN X0.here hx rfl (hb hby d2_0) rfl rfl ?_
    show Steps p.tables e below (s₁.setTop (mkF m 1 #[.val (.ref a1)] [(.ref a1)])) _
    refine st1 _ ?_
    show Steps p.tables e below (T1.setTop (mkF m 4 #[.val (.ref a1)] [])) _
    exact X1.returnOut hx Bd.returns (hb hby d2_4) hr
  · show Q2 Z a1  h0 n0 _ T1.heap _
    rw [e1]
    exact ⟨rfl, N0, rfl⟩

theorem d4_0 : decode prog_28_method_2_code 0 = .ok (.iload_n 0, 1) := by decide +kernel
theorem d4_1 : decode prog_28_method_2_code 1 = .ok (.ifCond .lt 9, 3) := by decide +kernel
theorem d4_4 : decode prog_28_method_2_code 4 = .ok (.iload_n 0, 1) := by decide +kernel
theorem d4_5 : decode prog_28_method_2_code 5 = .ok (.ldc 38, 2) := by decide +kernel
theorem d4_7 : decode prog_28_method_2_code 7 = .ok (.if_icmp .le 17, 3) := by decide +kernel
theorem d4_24 : decode prog_28_method_2_code 24 = .ok (.return_, 1) := by decide +kernel
theorem pn_2 : plainName "com/example/verdeel/verdeel/model/VerdeelId" = true := by first | (simp [plainName, overriddenIn]; done) | decide +kernel
theorem ef_4 (m : MethodId) (x0 : Int32) : entryFrame m #[(.int x0)] 1 = mkF m 0 #[.val (.int x0)] [] := by first | (simp [entryFrame, mkF, argsToLocals, Value.category]; done) | rfl
def Q4 (Z : State) (p1 : Int32)  (h0 : Heap) (n0 : Nat) (v : Option Value) (h : Heap) (L : List Loc) : Prop := v = none ∧ Fr n0 L ∧ h = h0
set_option maxRecDepth 65536 in
set_option maxHeartbeats 40000000 in
theorem rm4 (l : Launch) (Z : State) (a0 : Array Value) (hw : ∀ d ∈ tables_1, d.before a0 Z = true) (ws : List Jvm.Cond) (p1 : Int32)  (h0 : Heap) (n0 : Nat) (Z0 : n0 ≤ h0.size) (hs1 : ¬ p1 < (0 : Int32)) (hs2 : ¬ (65535 : Int32) < p1) :
    MetFree l (⟨"com/example/verdeel/verdeel/model/VerdeelId", "checkShard", "(I)V"⟩ : MethodName) (head1 (Jvm.Cond.code (⟨"com/example/verdeel/verdeel/model/VerdeelId", "checkShard", "(I)V"⟩ : MethodName) prog_28_method_2_code 1 none :: ws) ({ frames := 0, cells := 0, slots := 0, locals := 0 } : Room)) (fun a U => a = #[(.int p1)] ∧ Z.Warmed39 U.vm ∧ U.heap = h0) (fun _ _ _ _ _ => True) (fun _ U o U' => ∃ v L, o = .returned v ∧ Q4 Z p1  h0 n0 v U'.heap L ∧ FrameEnd U o U' L ({ frames := 0, cells := 0, slots := 0, locals := 0 } : Room).cells ({ frames := 0, cells := 0, slots := 0, locals := 0 } : Room).slots) := by
  refine MetFree.of_bodySF (plainFor_of_name pn_2) hisR ?_
  intro p e s m args below meth c s₁ Bd hml0 hP hK
  obtain ⟨rfl, hZ, hh⟩ := hP
  have hx := Bd.exec
  have hby := Bd.bytes
  have hml : c.maxLocals = 1 := hml0
  have hown : s.vm.findClass "com/example/verdeel/verdeel/model/VerdeelId" = some m.cls := findClass_of_methodNamed Bd.named
  have hnm := (name_of_methodNamed Bd.named Bd.method).1
  have X0 : Stand p l e ({ frames := 0, cells := 0, slots := 0, locals := 0 } : Room) s m #[(.int p1)] below meth c s₁ [] 0 0 := Stand.of_body Bd
  have e0 : s₁.heap = h0 := by rw [← hh, Bd.state]; rfl
  have N0 := Fr.nil n0
  have pre0 : ∀ t, Steps p.tables e below (s₁.setTop (mkF m 0 #[.val (.int p1)] [])) t → Steps p.tables e below (s₁.setTop (entryFrame m #[(.int p1)] 1)) t := fun t k => castTop (ef_4 m p1) k
  obtain ⟨fs, hr, hrun, hended, hW, hsame⟩ := X0.leave (v := none) (fun _ => rfl)
  refine ⟨_, _, pre0 _ ?_, hrun, hended, _, _, rfl, ?_, ⟨_, rfl⟩, hW, hsame.mono (by decide) (by decide)⟩
  · show Steps p.tables e below (s₁.setTop (mkF m 0 #[.val (.int p1)] [])) _
    refine XS.iloadN X0.here hx rfl (hb hby d4_0) rfl ?_
    show Steps p.tables e below (s₁.setTop (mkF m 1 #[.val (.int p1)] [(.int p1)])) _
    refine XS.ifNo X0.here hx rfl (hb hby d4_1) rfl ((if0 _ _).trans (flt (hs1 : ¬ (p1 < (0 : Int32)))).1) ?_
    show Steps p.tables e below (s₁.setTop (mkF m 4 #[.val (.int p1)] [])) _
    refine XS.iloadN X0.here hx rfl (hb hby d4_4) rfl ?_
    show Steps p.tables e below (s₁.setTop (mkF m 5 #[.val (.int p1)] [(.int p1)])) _
    refine X0.ldcInt hx hown (mvT hZ (hw _ (List.mem_of_getElem? (i := 19) rfl))) (g := (mkF m 5 #[.val (.int p1)] [(.int p1)])) rfl (hb hby d4_5) _ ?_
    show Steps p.tables e below (s₁.setTop (mkF m 7 #[.val (.int p1)] [(.int (65535 : Int32)), (.int p1)])) _
    refine XS.icmpYes X0.here hx rfl (pc0 := 7) (pc' := 24) rfl (hb hby d4_7) rfl (flt (hs2 : ¬ ((65535 : Int32) < p1))).2.2.2 (by decide) (by decide) ?_
    show Steps p.tables e below (s₁.setTop (mkF m 24 #[.val (.int p1)] [])) _
    exact X0.returnOut hx Bd.returns (hb hby d4_24) hr
  · show Q4 Z p1  h0 n0 _ s₁.heap _
    rw [e0]
    exact ⟨rfl, N0, rfl⟩

theorem d1_0 : decode prog_28_method_1_code 0 = .ok (.aload_n 0, 1) := by decide +kernel
theorem pd_0 : parseMethodDescriptor "()V" = some ⟨[], none⟩ := by decide +kernel
theorem d1_1 : decode prog_28_method_1_code 1 = .ok (.invokespecial 1, 3) := by decide +kernel
theorem d1_4 : decode prog_28_method_1_code 4 = .ok (.iload_n 1, 1) := by decide +kernel
theorem pd_1 : parseMethodDescriptor "(I)V" = some ⟨[.int], none⟩ := by decide +kernel
theorem d1_5 : decode prog_28_method_1_code 5 = .ok (.invokestatic 7, 3) := by decide +kernel
theorem d1_8 : decode prog_28_method_1_code 8 = .ok (.iload_n 2, 1) := by decide +kernel
theorem d1_9 : decode prog_28_method_1_code 9 = .ok (.ifCond .lt 10, 3) := by decide +kernel
theorem d1_12 : decode prog_28_method_1_code 12 = .ok (.iload_n 2, 1) := by decide +kernel
theorem d1_13 : decode prog_28_method_1_code 13 = .ok (.sipush 1023, 3) := by decide +kernel
theorem d1_16 : decode prog_28_method_1_code 16 = .ok (.if_icmp .le 17, 3) := by decide +kernel
theorem d1_33 : decode prog_28_method_1_code 33 = .ok (.lload_n 3, 1) := by decide +kernel
theorem d1_34 : decode prog_28_method_1_code 34 = .ok (.lconst 0, 1) := by decide +kernel
theorem d1_35 : decode prog_28_method_1_code 35 = .ok (.lcmp, 1) := by decide +kernel
theorem d1_36 : decode prog_28_method_1_code 36 = .ok (.ifCond .lt 11, 3) := by decide +kernel
theorem d1_39 : decode prog_28_method_1_code 39 = .ok (.lload_n 3, 1) := by decide +kernel
theorem d1_40 : decode prog_28_method_1_code 40 = .ok (.ldc2_w 22, 3) := by decide +kernel
theorem d1_43 : decode prog_28_method_1_code 43 = .ok (.lcmp, 1) := by decide +kernel
theorem d1_44 : decode prog_28_method_1_code 44 = .ok (.ifCond .le 17, 3) := by decide +kernel
theorem d1_61 : decode prog_28_method_1_code 61 = .ok (.aload_n 0, 1) := by decide +kernel
theorem d1_62 : decode prog_28_method_1_code 62 = .ok (.iload_n 1, 1) := by decide +kernel
theorem d1_63 : decode prog_28_method_1_code 63 = .ok (.putfield 27, 3) := by decide +kernel
theorem d1_66 : decode prog_28_method_1_code 66 = .ok (.aload_n 0, 1) := by decide +kernel
theorem d1_67 : decode prog_28_method_1_code 67 = .ok (.iload_n 2, 1) := by decide +kernel
theorem d1_68 : decode prog_28_method_1_code 68 = .ok (.putfield 31, 3) := by decide +kernel
theorem d1_71 : decode prog_28_method_1_code 71 = .ok (.aload_n 0, 1) := by decide +kernel
theorem d1_72 : decode prog_28_method_1_code 72 = .ok (.lload_n 3, 1) := by decide +kernel
theorem d1_73 : decode prog_28_method_1_code 73 = .ok (.putfield 34, 3) := by decide +kernel
theorem d1_76 : decode prog_28_method_1_code 76 = .ok (.return_, 1) := by decide +kernel
theorem ef_1 (m : MethodId) (x0 : Addr) (x1 : Int32) (x2 : Int32) (x3 : Int64) : entryFrame m #[(.ref x0), (.int x1), (.int x2), (.long x3)] 5 = mkF m 0 #[.val (.ref x0), .val (.int x1), .val (.int x2), .val (.long x3), .second] [] := by first | (simp [entryFrame, mkF, argsToLocals, Value.category]; done) | rfl
def Q1 (Z : State) (a1 : Addr) (p2 : Int32) (p3 : Int32) (q4 : Int64) (u0 : Value) (u1 : Value) (u2 : Value) (h0 : Heap) (n0 : Nat) (v : Option Value) (h : Heap) (L : List Loc) : Prop := v = none ∧ Fr n0 L ∧ Keep h0 h [a1] ∧ Exa Z h a1 "com/example/verdeel/verdeel/model/VerdeelId" ∧ Fld Z h a1 "com/example/verdeel/verdeel/model/VerdeelId" "shard" "I" (.int p2) ∧ Fld Z h a1 "com/example/verdeel/verdeel/model/VerdeelId" "type" "I" (.int p3) ∧ Fld Z h a1 "com/example/verdeel/verdeel/model/VerdeelId" "local" "J" (.long q4)
set_option maxRecDepth 65536 in
set_option maxHeartbeats 40000000 in
theorem rm1 (l : Launch) (Z : State) (a0 : Array Value) (hw : ∀ d ∈ tables_1, d.before a0 Z = true) (ws : List Jvm.Cond) (a1 : Addr) (p2 : Int32) (p3 : Int32) (q4 : Int64) (u0 : Value) (u1 : Value) (u2 : Value) (h0 : Heap) (n0 : Nat) (Z0 : n0 ≤ h0.size) (g_a1 : n0 ≤ a1) (E_a1 : Exa Z h0 a1 "com/example/verdeel/verdeel/model/VerdeelId") (F_shard : Fld Z h0 a1 "com/example/verdeel/verdeel/model/VerdeelId" "shard" "I" u0) (F_type : Fld Z h0 a1 "com/example/verdeel/verdeel/model/VerdeelId" "type" "I" u1) (F_local : Fld Z h0 a1 "com/example/verdeel/verdeel/model/VerdeelId" "local" "J" u2) (hs1 : ¬ p2 < (0 : Int32)) (hs2 : ¬ (65535 : Int32) < p2) (ht1 : ¬ p3 < (0 : Int32)) (ht2 : ¬ (1023 : Int32) < p3) (hl1 : ¬ q4 < (0 : Int64)) (hl2 : ¬ (68719476735 : Int64) < q4) :
    MetFree l (⟨"com/example/verdeel/verdeel/model/VerdeelId", "<init>", "(IIJ)V"⟩ : MethodName) (head1 (Jvm.Cond.code (⟨"com/example/verdeel/verdeel/model/VerdeelId", "<init>", "(IIJ)V"⟩ : MethodName) prog_28_method_1_code 5 none :: ws) ({ frames := 2, cells := 0, slots := 0, locals := 24 } : Room)) (fun a U => a = #[(.ref a1), (.int p2), (.int p3), (.long q4)] ∧ Z.Warmed39 U.vm ∧ U.heap = h0) (fun _ _ _ _ _ => True) (fun _ U o U' => ∃ v L, o = .returned v ∧ Q1 Z a1 p2 p3 q4 u0 u1 u2 h0 n0 v U'.heap L ∧ FrameEnd U o U' L ({ frames := 2, cells := 0, slots := 0, locals := 24 } : Room).cells ({ frames := 2, cells := 0, slots := 0, locals := 24 } : Room).slots) := by
  refine MetFree.of_bodySF (plainFor_of_name pn_2) hisR ?_
  intro p e s m args below meth c s₁ Bd hml0 hP hK
  obtain ⟨rfl, hZ, hh⟩ := hP
  have hx := Bd.exec
  have hby := Bd.bytes
  have hml : c.maxLocals = 5 := hml0
  have hown : s.vm.findClass "com/example/verdeel/verdeel/model/VerdeelId" = some m.cls := findClass_of_methodNamed Bd.named
  have hnm := (name_of_methodNamed Bd.named Bd.method).1
  have X0 : Stand p l e ({ frames := 2, cells := 0, slots := 0, locals := 24 } : Room) s m #[(.ref a1), (.int p2), (.int p3), (.long q4)] below meth c s₁ [] 0 0 := Stand.of_body Bd
  have e0 : s₁.heap = h0 := by rw [← hh, Bd.state]; rfl
  have N0 := Fr.nil n0
  have pre0 : ∀ t, Steps p.tables e below (s₁.setTop (mkF m 0 #[.val (.ref a1), .val (.int p2), .val (.int p3), .val (.long q4), .second] [])) t → Steps p.tables e below (s₁.setTop (entryFrame m #[(.ref a1), (.int p2), (.int p3), (.long q4)] 5)) t := fun t k => castTop (ef_1 m a1 p2 p3 q4) k
  obtain ⟨_, _, ⟨T1, L1, k1, n1⟩, -, X1, ⟨Lc1, hQ1, l1, y1, z1⟩, st1⟩ := X0.specialBack hx (y := (⟨"java/lang/Record", "<init>", "()V"⟩ : MethodName)) rfl hown (mvT hZ (hw _ (List.mem_of_getElem? (i := 8) rfl))) (mvT hZ (hw _ (List.mem_of_getElem? (i := 9) rfl))) (mvT hZ (hw _ (List.mem_of_getElem? (i := 12) rfl))) (by decide) (backOf (W := 0) (rm2 l Z a0 hw [] a1 h0 n0 Z0) hZ (hw _ (List.mem_of_getElem? (i := 12) rfl)) (hw _ (List.mem_of_getElem? (i := 11) rfl)) (by decide) (by decide)) (g := (mkF m 1 #[.val (.ref a1), .val (.int p2), .val (.int p3), .val (.long q4), .second] [(.ref a1)])) rfl (by rw [hml]; rfl) (Steps.refl _) (a := a1) (argsL := []) (rest := []) (lenOf pd_0 rfl) rfl (by show 2 * 0 + _ ≤ _; exact Nat.le_of_eq rfl) (hb hby d1_1) (fun _ _ => ⟨rfl, e0, (by decide : 0 + 0 ≤ _), (by decide : 0 + 0 ≤ _)⟩)
  dsimp only [Pt.U, Pt.locs, Pt.cells, Pt.slots] at X1 l1 y1 z1 st1 hQ1
  subst l1 y1 z1
  obtain ⟨rfl, N1q, e1⟩ := hQ1
  have N1 := Fr.app N0 N1q
  obtain ⟨_, _, ⟨T2, L2, k2, n2⟩, -, X2, ⟨Lc2, hQ2, l2, y2, z2⟩, st2⟩ := Jvm.LawKit.callS X1 hx (y := (⟨"com/example/verdeel/verdeel/model/VerdeelId", "checkShard", "(I)V"⟩ : MethodName)) hown (mvT hZ (hw _ (List.mem_of_getElem? (i := 16) rfl))) (mvT hZ (hw _ (List.mem_of_getElem? (i := 17) rfl))) (mvT hZ (hw _ (List.mem_of_getElem? (i := 4) rfl))) (mvT hZ (hw _ (List.mem_of_getElem? (i := 18) rfl))) (by decide) (backOf (W := 0) (rm4 l Z a0 hw [] p2 h0 n0 Z0 hs1 hs2) hZ (hw _ (List.mem_of_getElem? (i := 18) rfl)) (hw _ (List.mem_of_getElem? (i := 4) rfl)) (by decide) (by decide)) (g := (mkF m 5 #[.val (.ref a1), .val (.int p2), .val (.int p3), .val (.long q4), .second] [(.int p2)])) rfl (by rw [hml]; rfl) (argsL := [(.int p2)]) (rest := []) (lenOf pd_1 rfl) rfl (by show 2 * 0 + _ ≤ _; exact Nat.le_of_eq rfl) (hb hby d1_5) (fun _ _ => ⟨rfl, e1, (by decide : 0 + 0 ≤ _), (by decide : 0 + 0 ≤ _)⟩)
  dsimp only [Pt.U, Pt.locs, Pt.cells, Pt.slots] at X2 l2 y2 z2 st2 hQ2
  subst l2 y2 z2
  obtain ⟨rfl, N2q, e2⟩ := hQ2
  have N2 := Fr.app N1 N2q
  obtain ⟨T3, h3, X3, e3, W3, st3⟩ := putF X2 hx hZ hown (host := "") (Or.inl (hw _ (List.mem_of_getElem? (i := 21) rfl))) Via.refl e2 F_shard E_a1 (Or.inr ⟨(hw _ (List.mem_of_getElem? (i := 22) rfl)), rfl, hnm⟩) (hw _ (List.mem_of_getElem? (i := 3) rfl)) (ty := .int) (by decide) rfl rfl (g := (mkF m 63 #[.val (.ref a1), .val (.int p2), .val (.int p3), .val (.long q4), .second] [(.int p2), (.ref a1)])) rfl rfl (hb hby d1_63)
  have Fw3 := F_shard.same W3
  have E_a1_h3 := (E_a1.wr W3)
  have F_type_h3 := (F_type.other W3 (Or.inr (slot_ne (Or.inr (hw _ (List.mem_of_getElem? (i := 24) rfl))) (Or.inr (hw _ (List.mem_of_getElem? (i := 22) rfl))) (by decide) (t := .int) (t' := .int) (by decide) (by decide))))
  have F_local_h3 := (F_local.other W3 (Or.inr (slot_ne (Or.inr (hw _ (List.mem_of_getElem? (i := 26) rfl))) (Or.inr (hw _ (List.mem_of_getElem? (i := 22) rfl))) (by decide) (t := .long) (t' := .int) (by decide) (by decide))))
  have Z3 := (Nat.le_trans Z0 (Keep.of_wr W3).1)
  have KK3 := (Keep.refl h0 [a1]).wr W3 (Or.inl (by simp))
  have N3 := Fr.snoc X3 N2 g_a1
  obtain ⟨T4, h4, X4, e4, W4, st4⟩ := putF X3 hx hZ hown (host := "") (Or.inl (hw _ (List.mem_of_getElem? (i := 23) rfl))) Via.refl e3 F_type_h3 E_a1_h3 (Or.inr ⟨(hw _ (List.mem_of_getElem? (i := 24) rfl)), rfl, hnm⟩) (hw _ (List.mem_of_getElem? (i := 3) rfl)) (ty := .int) (by decide) rfl rfl (g := (mkF m 68 #[.val (.ref a1), .val (.int p2), .val (.int p3), .val (.long q4), .second] [(.int p3), (.ref a1)])) rfl rfl (hb hby d1_68)
  have Fw4 := F_type_h3.same W4
  have E_a1_h4 := (E_a1_h3.wr W4)
  have Fw3_h4 := (Fw3.other W4 (Or.inr (slot_ne (Or.inr (hw _ (List.mem_of_getElem? (i := 22) rfl))) (Or.inr (hw _ (List.mem_of_getElem? (i := 24) rfl))) (by decide) (t := .int) (t' := .int) (by decide) (by decide))))
  have F_local_h4 := (F_local_h3.other W4 (Or.inr (slot_ne (Or.inr (hw _ (List.mem_of_getElem? (i := 26) rfl))) (Or.inr (hw _ (List.mem_of_getElem? (i := 24) rfl))) (by decide) (t := .long) (t' := .int) (by decide) (by decide))))
  have Z4 := (Nat.le_trans Z3 (Keep.of_wr W4).1)
  have KK4 := KK3.wr W4 (Or.inl (by simp))
  have N4 := Fr.snoc X4 N3 g_a1
  obtain ⟨T5, h5, X5, e5, W5, st5⟩ := putF X4 hx hZ hown (host := "") (Or.inl (hw _ (List.mem_of_getElem? (i := 25) rfl))) Via.refl e4 F_local_h4 E_a1_h4 (Or.inr ⟨(hw _ (List.mem_of_getElem? (i := 26) rfl)), rfl, hnm⟩) (hw _ (List.mem_of_getElem? (i := 3) rfl)) (ty := .long) (by decide) rfl rfl (g := (mkF m 73 #[.val (.ref a1), .val (.int p2), .val (.int p3), .val (.long q4), .second] [(.long q4), (.ref a1)])) rfl rfl (hb hby d1_73)
  have Fw5 := F_local_h4.same W5
  have E_a1_h5 := (E_a1_h4.wr W5)
  have Fw3_h5 := (Fw3_h4.other W5 (Or.inr (slot_ne (Or.inr (hw _ (List.mem_of_getElem? (i := 22) rfl))) (Or.inr (hw _ (List.mem_of_getElem? (i := 26) rfl))) (by decide) (t := .int) (t' := .long) (by decide) (by decide))))
  have Fw4_h5 := (Fw4.other W5 (Or.inr (slot_ne (Or.inr (hw _ (List.mem_of_getElem? (i := 24) rfl))) (Or.inr (hw _ (List.mem_of_getElem? (i := 26) rfl))) (by decide) (t := .int) (t' := .long) (by decide) (by decide))))
  have Z5 := (Nat.le_trans Z4 (Keep.of_wr W5).1)
  have KK5 := KK4.wr W5 (Or.inl (by simp))
  have N5 := Fr.snoc X5 N4 g_a1
  obtain ⟨fs, hr, hrun, hended, hW, hsame⟩ := X5.leave (v := none) (fun _ => rfl)
  refine ⟨_, _, pre0 _ ?_, hrun, hended, _, _, rfl, ?_, ⟨_, rfl⟩, hW, hsame.mono (by decide) (by decide)⟩
  · show Steps p.tables e below (s₁.setTop (mkF m 0 #[.val (.ref a1), .val (.int p2), .val (.int p3), .val (.long q4), .second] [])) _
    refine XS.aloadN X0.here hx rfl (hb hby d1_0) rfl rfl ?_
    show Steps p.tables e below (s₁.setTop (mkF m 1 #[.val (.ref a1), .val (.int p2), .val (.int p3), .val (.long q4), .second] [(.ref a1)])) _
    refine st1.trans ?_
    show Steps p.tables e below (T1.setTop (mkF m 4 #[.val (.ref a1), .val (.int p2), .val (.int p3), .val (.long q4), .second] [])) _
    refine XS.iloadN X1.here hx rfl (hb hby d1_4) rfl ?_
    show Steps p.tables e below (T1.setTop (mkF m 5 #[.val (.ref a1), .val (.int p2), .val (.int p3), .val (.long q4), .second] [(.int p2)])) _
    refine st2 _ ?_
    show Steps p.tables e below (T2.setTop (mkF m 8 #[.val (.ref a1), .val (.int p2), .val (.int p3), .val (.long q4), .second] [])) _
    refine XS.iloadN X2.here hx rfl (hb hby d1_8) rfl ?_
    show Steps p.tables e below (T2.setTop (mkF m 9 #[.val (.ref a1), .val (.int p2), .val (.int p3), .val (.long q4), .second] [(.int p3)])) _
    refine XS.ifNo X2.here hx rfl (hb hby d1_9) rfl ((if0 _ _).trans (flt (ht1 : ¬ (p3 < (0 : Int32)))).1) ?_
    show Steps p.tables e below (T2.setTop (mkF m 12 #[.val (.ref a1), .val (.int p2), .val (.int p3), .val (.long q4), .second] [])) _
    refine XS.iloadN X2.here hx rfl (hb hby d1_12) rfl ?_
    show Steps p.tables e below (T2.setTop (mkF m 13 #[.val (.ref a1), .val (.int p2), .val (.int p3), .val (.long q4), .second] [(.int p3)])) _
    refine XS.sipush X2.here hx rfl (hb hby d1_13) ?_
    show Steps p.tables e below (T2.setTop (mkF m 16 #[.val (.ref a1), .val (.int p2), .val (.int p3), .val (.long q4), .second] [(.int (1023 : Int32)), (.int p3)])) _
    refine XS.icmpYes X2.here hx rfl (pc0 := 16) (pc' := 33) rfl (hb hby d1_16) rfl (flt (ht2 : ¬ ((1023 : Int32) < p3))).2.2.2 (by decide) (by decide) ?_
    show Steps p.tables e below (T2.setTop (mkF m 33 #[.val (.ref a1), .val (.int p2), .val (.int p3), .val (.long q4), .second] [])) _
    refine XS.lloadN X2.here hx rfl (hb hby d1_33) rfl ?_
    show Steps p.tables e below (T2.setTop (mkF m 34 #[.val (.ref a1), .val (.int p2), .val (.int p3), .val (.long q4), .second] [(.long q4)])) _
    refine XS.lconst X2.here hx rfl (hb hby d1_34) ?_
    show Steps p.tables e below (T2.setTop (mkF m 35 #[.val (.ref a1), .val (.int p2), .val (.int p3), .val (.long q4), .second] [(.long (0 : Int64)), (.long q4)])) _
    refine XS.lcmp X2.here hx rfl (hb hby d1_35) rfl ?_
    show Steps p.tables e below (T2.setTop (mkF m 36 #[.val (.ref a1), .val (.int p2), .val (.int p3), .val (.long q4), .second] [(.int (lcmpW q4 (0 : Int64)))])) _
    refine XS.ifNo X2.here hx rfl (hb hby d1_36) rfl ((if0 _ _).trans (flt (fun q => hl1 ((lw_lt _ _).mp q) : ¬ ((lcmpW q4 (0 : Int64)) < (0 : Int32)))).1) ?_
    show Steps p.tables e below (T2.setTop (mkF m 39 #[.val (.ref a1), .val (.int p2), .val (.int p3), .val (.long q4), .second] [])) _
    refine XS.lloadN X2.here hx rfl (hb hby d1_39) rfl ?_
    show Steps p.tables e below (T2.setTop (mkF m 40 #[.val (.ref a1), .val (.int p2), .val (.int p3), .val (.long q4), .second] [(.long q4)])) _
    refine X2.ldc2Long hx hown (mvT hZ (hw _ (List.mem_of_getElem? (i := 20) rfl))) (g := (mkF m 40 #[.val (.ref a1), .val (.int p2), .val (.int p3), .val (.long q4), .second] [(.long q4)])) rfl (hb hby d1_40) _ ?_
    show Steps p.tables e below (T2.setTop (mkF m 43 #[.val (.ref a1), .val (.int p2), .val (.int p3), .val (.long q4), .second] [(.long (68719476735 : Int64)), (.long q4)])) _
    refine XS.lcmp X2.here hx rfl (hb hby d1_43) rfl ?_
    show Steps p.tables e below (T2.setTop (mkF m 44 #[.val (.ref a1), .val (.int p2), .val (.int p3), .val (.long q4), .second] [(.int (lcmpW q4 (68719476735 : Int64)))])) _
    refine XS.ifYes X2.here hx rfl (pc0 := 44) (pc' := 61) rfl (hb hby d1_44) rfl ((if0 _ _).trans (flt (fun q => hl2 ((lw_gt _ _).mp q) : ¬ ((0 : Int32) < (lcmpW q4 (68719476735 : Int64))))).2.2.2) (by decide) (by decide) ?_
    show Steps p.tables e below (T2.setTop (mkF m 61 #[.val (.ref a1), .val (.int p2), .val (.int p3), .val (.long q4), .second] [])) _
    refine XS.aloadN X2.here hx rfl (hb hby d1_61) rfl rfl ?_
    show Steps p.tables e below (T2.setTop (mkF m 62 #[.val (.ref a1), .val (.int p2), .val (.int p3), .val (.long q4), .second] [(.ref a1)])) _
    refine XS.iloadN X2.here hx rfl (hb hby d1_62) rfl ?_
    show Steps p.tables e below (T2.setTop (mkF m 63 #[.val (.ref a1), .val (.int p2), .val (.int p3), .val (.long q4), .second] [(.int p2), (.ref a1)])) _
    refine st3 _ ?_
    show Steps p.tables e below (T3.setTop (mkF m 66 #[.val (.ref a1), .val (.int p2), .val (.int p3), .val (.long q4), .second] [])) _
    refine XS.aloadN X3.here hx rfl (hb hby d1_66) rfl rfl ?_
    show Steps p.tables e below (T3.setTop (mkF m 67 #[.val (.ref a1), .val (.int p2), .val (.int p3), .val (.long q4), .second] [(.ref a1)])) _
    refine XS.iloadN X3.here hx rfl (hb hby d1_67) rfl ?_
    show Steps p.tables e below (T3.setTop (mkF m 68 #[.val (.ref a1), .val (.int p2), .val (.int p3), .val (.long q4), .second] [(.int p3), (.ref a1)])) _
    refine st4 _ ?_
    show Steps p.tables e below (T4.setTop (mkF m 71 #[.val (.ref a1), .val (.int p2), .val (.int p3), .val (.long q4), .second] [])) _
    refine XS.aloadN X4.here hx rfl (hb hby d1_71) rfl rfl ?_
    show Steps p.tables e below (T4.setTop (mkF m 72 #[.val (.ref a1), .val (.int p2), .val (.int p3), .val (.long q4), .second] [(.ref a1)])) _
    refine XS.lloadN X4.here hx rfl (hb hby d1_72) rfl ?_
    show Steps p.tables e below (T4.setTop (mkF m 73 #[.val (.ref a1), .val (.int p2), .val (.int p3), .val (.long q4), .second] [(.long q4), (.ref a1)])) _
    refine st5 _ ?_
    show Steps p.tables e below (T5.setTop (mkF m 76 #[.val (.ref a1), .val (.int p2), .val (.int p3), .val (.long q4), .second] [])) _
    exact X5.returnOut hx Bd.returns (hb hby d1_76) hr
  · show Q1 Z a1 p2 p3 q4 u0 u1 u2 h0 n0 _ T5.heap _
    rw [e5]
    exact ⟨rfl, N5, KK5, E_a1_h5, Fw3_h5, Fw4_h5, Fw5⟩

theorem d5_0 : decode prog_28_method_5_code 0 = .ok (.aload_n 0, 1) := by decide +kernel
theorem d5_1 : decode prog_28_method_5_code 1 = .ok (.getfield 27, 3) := by decide +kernel
theorem d5_4 : decode prog_28_method_5_code 4 = .ok (.i2l, 1) := by decide +kernel
theorem d5_5 : decode prog_28_method_5_code 5 = .ok (.bipush 46, 2) := by decide +kernel
theorem d5_7 : decode prog_28_method_5_code 7 = .ok (.lshl, 1) := by decide +kernel
theorem d5_8 : decode prog_28_method_5_code 8 = .ok (.aload_n 0, 1) := by decide +kernel
theorem d5_9 : decode prog_28_method_5_code 9 = .ok (.getfield 31, 3) := by decide +kernel
theorem d5_12 : decode prog_28_method_5_code 12 = .ok (.i2l, 1) := by decide +kernel
theorem d5_13 : decode prog_28_method_5_code 13 = .ok (.bipush 36, 2) := by decide +kernel
theorem d5_15 : decode prog_28_method_5_code 15 = .ok (.lshl, 1) := by decide +kernel
theorem d5_16 : decode prog_28_method_5_code 16 = .ok (.lor, 1) := by decide +kernel
theorem d5_17 : decode prog_28_method_5_code 17 = .ok (.aload_n 0, 1) := by decide +kernel
theorem d5_18 : decode prog_28_method_5_code 18 = .ok (.getfield 34, 3) := by decide +kernel
theorem d5_21 : decode prog_28_method_5_code 21 = .ok (.lor, 1) := by decide +kernel
theorem d5_22 : decode prog_28_method_5_code 22 = .ok (.lreturn, 1) := by decide +kernel
theorem ef_5 (m : MethodId) (x0 : Addr) : entryFrame m #[(.ref x0)] 1 = mkF m 0 #[.val (.ref x0)] [] := by first | (simp [entryFrame, mkF, argsToLocals, Value.category]; done) | rfl
def Q5 (Z : State) (a1 : Addr) (w1 : Int32) (w2 : Int32) (w3 : Int64) (h0 : Heap) (n0 : Nat) (v : Option Value) (h : Heap) (L : List Loc) : Prop := v = some (.long (own_v w1 w2 w3)) ∧ Fr n0 L ∧ h = h0
set_option maxRecDepth 65536 in
set_option maxHeartbeats 40000000 in
theorem rm5 (l : Launch) (Z : State) (a0 : Array Value) (hw : ∀ d ∈ tables_1, d.before a0 Z = true) (ws : List Jvm.Cond) (a1 : Addr) (w1 : Int32) (w2 : Int32) (w3 : Int64) (h0 : Heap) (n0 : Nat) (Z0 : n0 ≤ h0.size) (F_shard : Fld Z h0 a1 "com/example/verdeel/verdeel/model/VerdeelId" "shard" "I" (.int w1)) (F_type : Fld Z h0 a1 "com/example/verdeel/verdeel/model/VerdeelId" "type" "I" (.int w2)) (F_local : Fld Z h0 a1 "com/example/verdeel/verdeel/model/VerdeelId" "local" "J" (.long w3)) :
    MetFree l (⟨"com/example/verdeel/verdeel/model/VerdeelId", "toLong", "()J"⟩ : MethodName) (head1 (Jvm.Cond.code (⟨"com/example/verdeel/verdeel/model/VerdeelId", "toLong", "()J"⟩ : MethodName) prog_28_method_5_code 1 (some .long) :: ws) ({ frames := 0, cells := 0, slots := 0, locals := 0 } : Room)) (fun a U => a = #[(.ref a1)] ∧ Z.Warmed39 U.vm ∧ U.heap = h0) (fun _ _ _ _ _ => True) (fun _ U o U' => ∃ v L, o = .returned v ∧ Q5 Z a1 w1 w2 w3 h0 n0 v U'.heap L ∧ FrameEnd U o U' L ({ frames := 0, cells := 0, slots := 0, locals := 0 } : Room).cells ({ frames := 0, cells := 0, slots := 0, locals := 0 } : Room).slots) := by
  refine MetFree.of_bodySF (plainFor_of_name pn_2) hisR ?_
  intro p e s m args below meth c s₁ Bd hml0 hP hK
  obtain ⟨rfl, hZ, hh⟩ := hP
  have hx := Bd.exec
  have hby := Bd.bytes
  have hml : c.maxLocals = 1 := hml0
  have hown : s.vm.findClass "com/example/verdeel/verdeel/model/VerdeelId" = some m.cls := findClass_of_methodNamed Bd.named
  have hnm := (name_of_methodNamed Bd.named Bd.method).1
  have X0 : Stand p l e ({ frames := 0, cells := 0, slots := 0, locals := 0 } : Room) s m #[(.ref a1)] below meth c s₁ [] 0 0 := Stand.of_body Bd
  have e0 : s₁.heap = h0 := by rw [← hh, Bd.state]; rfl
  have N0 := Fr.nil n0
  have pre0 : ∀ t, Steps p.tables e below (s₁.setTop (mkF m 0 #[.val (.ref a1)] [])) t → Steps p.tables e below (s₁.setTop (entryFrame m #[(.ref a1)] 1)) t := fun t k => castTop (ef_5 m a1) k
  obtain ⟨T1, X1, e1, st1⟩ := getF X0 hx hZ hown (host := "") (Or.inl (hw _ (List.mem_of_getElem? (i := 21) rfl))) Via.refl e0 F_shard (g := (mkF m 1 #[.val (.ref a1)] [(.ref a1)])) rfl rfl (hb hby d5_1)
  obtain ⟨T2, X2, e2, st2⟩ := getF X1 hx hZ hown (host := "") (Or.inl (hw _ (List.mem_of_getElem? (i := 23) rfl))) Via.refl e1 F_type (g := (mkF m 9 #[.val (.ref a1)] [(.ref a1), (.long ((w1.toInt64) <<< ((46 : Int32) &&& 0x3f).toInt64))])) rfl rfl (hb hby d5_9)
  obtain ⟨T3, X3, e3, st3⟩ := getF X2 hx hZ hown (host := "") (Or.inl (hw _ (List.mem_of_getElem? (i := 25) rfl))) Via.refl e2 F_local (g := (mkF m 18 #[.val (.ref a1)] [(.ref a1), (.long (((w1.toInt64) <<< ((46 : Int32) &&& 0x3f).toInt64) ||| ((w2.toInt64) <<< ((36 : Int32) &&& 0x3f).toInt64)))])) rfl rfl (hb hby d5_18)
  obtain ⟨fs, hr, hrun, hended, hW, hsame⟩ := X3.leave (v := some (.long ((((w1.toInt64) <<< ((46 : Int32) &&& 0x3f).toInt64) ||| ((w2.toInt64) <<< ((36 : Int32) &&& 0x3f).toInt64)) ||| w3))) (fun h => by rw [Bd.returns] at h; cases h)
  refine ⟨_, _, pre0 _ ?_, hrun, hended, _, _, rfl, ?_, ⟨_, rfl⟩, hW, hsame.mono (by decide) (by decide)⟩
  · show Steps p.tables e below (s₁.setTop (mkF m 0 #[.val (.ref a1)] [])) _
    refine XS.aloadN X0.here hx rfl (hb hby d5_0) rfl rfl ?_
    show Steps p.tables e below (s₁.setTop (mkF m 1 #[.val (.ref a1)] [(.ref a1)])) _
    refine st1 _ ?_
    show Steps p.tables e below (T1.setTop (mkF m 4 #[.val (.ref a1)] [(.int w1)])) _
    refine XS.i2l X1.here hx rfl (hb hby d5_4) rfl ?_
    show Steps p.tables e below (T1.setTop (mkF m 5 #[.val (.ref a1)] [(.long (w1.toInt64))])) _
    refine XS.bipush X1.here hx rfl (hb hby d5_5) ?_
    show Steps p.tables e below (T1.setTop (mkF m 7 #[.val (.ref a1)] [(.int (46 : Int32)), (.long (w1.toInt64))])) _
    refine XS.lshl X1.here hx rfl (hb hby d5_7) rfl ?_
    show Steps p.tables e below (T1.setTop (mkF m 8 #[.val (.ref a1)] [(.long ((w1.toInt64) <<< ((46 : Int32) &&& 0x3f).toInt64))])) _
    refine XS.aloadN X1.here hx rfl (hb hby d5_8) rfl rfl ?_
    show Steps p.tables e below (T1.setTop (mkF m 9 #[.val (.ref a1)] [(.ref a1), (.long ((w1.toInt64) <<< ((46 : Int32) &&& 0x3f).toInt64))])) _
    refine st2 _ ?_
    show Steps p.tables e below (T2.setTop (mkF m 12 #[.val (.ref a1)] [(.int w2), (.long ((w1.toInt64) <<< ((46 : Int32) &&& 0x3f).toInt64))])) _
    refine XS.i2l X2.here hx rfl (hb hby d5_12) rfl ?_
    show Steps p.tables e below (T2.setTop (mkF m 13 #[.val (.ref a1)] [(.long (w2.toInt64)), (.long ((w1.toInt64) <<< ((46 : Int32) &&& 0x3f).toInt64))])) _
    refine XS.bipush X2.here hx rfl (hb hby d5_13) ?_
    show Steps p.tables e below (T2.setTop (mkF m 15 #[.val (.ref a1)] [(.int (36 : Int32)), (.long (w2.toInt64)), (.long ((w1.toInt64) <<< ((46 : Int32) &&& 0x3f).toInt64))])) _
    refine XS.lshl X2.here hx rfl (hb hby d5_15) rfl ?_
    show Steps p.tables e below (T2.setTop (mkF m 16 #[.val (.ref a1)] [(.long ((w2.toInt64) <<< ((36 : Int32) &&& 0x3f).toInt64)), (.long ((w1.toInt64) <<< ((46 : Int32) &&& 0x3f).toInt64))])) _
    refine XS.lor X2.here hx rfl (hb hby d5_16) rfl ?_
    show Steps p.tables e below (T2.setTop (mkF m 17 #[.val (.ref a1)] [(.long (((w1.toInt64) <<< ((46 : Int32) &&& 0x3f).toInt64) ||| ((w2.toInt64) <<< ((36 : Int32) &&& 0x3f).toInt64)))])) _
    refine XS.aloadN X2.here hx rfl (hb hby d5_17) rfl rfl ?_
    show Steps p.tables e below (T2.setTop (mkF m 18 #[.val (.ref a1)] [(.ref a1), (.long (((w1.toInt64) <<< ((46 : Int32) &&& 0x3f).toInt64) ||| ((w2.toInt64) <<< ((36 : Int32) &&& 0x3f).toInt64)))])) _
    refine st3 _ ?_
    show Steps p.tables e below (T3.setTop (mkF m 21 #[.val (.ref a1)] [(.long w3), (.long (((w1.toInt64) <<< ((46 : Int32) &&& 0x3f).toInt64) ||| ((w2.toInt64) <<< ((36 : Int32) &&& 0x3f).toInt64)))])) _
    refine XS.lor X3.here hx rfl (hb hby d5_21) rfl ?_
    show Steps p.tables e below (T3.setTop (mkF m 22 #[.val (.ref a1)] [(.long ((((w1.toInt64) <<< ((46 : Int32) &&& 0x3f).toInt64) ||| ((w2.toInt64) <<< ((36 : Int32) &&& 0x3f).toInt64)) ||| w3))])) _
    exact X3.lreturnOut hx Bd.returns (hb hby d5_22) hr
  · show Q5 Z a1 w1 w2 w3 h0 n0 _ T3.heap _
    rw [e3]
    exact ⟨rfl, N0, rfl⟩

theorem pd_2 : parseMethodDescriptor "(IIJ)V" = some ⟨[.int, .int, .long], none⟩ := by decide +kernel
theorem pd_3 : parseMethodDescriptor "()J" = some ⟨[], some .long⟩ := by decide +kernel
theorem pn_3 : plainName "com/example/verdeel/verdeel/model/VerdeelIdToLongPinLaw" = true := by first | (simp [plainName, overriddenIn]; done) | decide +kernel
theorem ef_0 (m : MethodId) (x0 : Int32) (x1 : Int32) (x2 : Int64) : entryFrame m #[(.int x0), (.int x1), (.long x2)] maxLocals = mkF m 0 #[.val (.int x0), .val (.int x1), .val (.long x2), .second, .unset, .unset, .unset, .unset, .unset, .unset, .unset, .unset, .unset] [] := by first | (simp [entryFrame, mkF, argsToLocals, Value.category, maxLocals]; done) | rfl
def Q0 (Z : State) (p1 : Int32) (p2 : Int32) (q3 : Int64)  (h0 : Heap) (n0 : Nat) (v : Option Value) (h : Heap) (L : List Loc) : Prop := v = some (.int (1 : Int32)) ∧ Fr n0 L
set_option maxRecDepth 65536 in
set_option maxHeartbeats 40000000 in
theorem rm0 (l : Launch) (Z : State) (a0 : Array Value) (hw : ∀ d ∈ tables_1, d.before a0 Z = true) (ws : List Jvm.Cond) (p1 : Int32) (p2 : Int32) (q3 : Int64)  (h0 : Heap) (n0 : Nat) (Z0 : n0 ≤ h0.size)  :
    MetFree l x (head1 (Jvm.Cond.code x code maxLocals ret :: ws) room_1) (fun a U => a = #[(.int p1), (.int p2), (.long q3)] ∧ Z.Warmed39 U.vm ∧ U.heap = h0) (fun _ _ _ _ _ => True) (fun _ U o U' => ∃ v L, o = .returned v ∧ Q0 Z p1 p2 q3  h0 n0 v U'.heap L ∧ FrameEnd U o U' L room_1.cells room_1.slots) := by
  refine MetFree.of_bodySF (plainFor_of_name pn_3) hisR ?_
  intro p e s m args below meth c s₁ Bd hml0 hP hK
  obtain ⟨rfl, hZ, hh⟩ := hP
  have hx := Bd.exec
  have hby := Bd.bytes
  have hml : c.maxLocals = 13 := hml0
  have hown : s.vm.findClass "com/example/verdeel/verdeel/model/VerdeelIdToLongPinLaw" = some m.cls := findClass_of_methodNamed Bd.named
  have hnm := (name_of_methodNamed Bd.named Bd.method).1
  have X0 : Stand p l e room_1 s m #[(.int p1), (.int p2), (.long q3)] below meth c s₁ [] 0 0 := Stand.of_body Bd
  have e0 : s₁.heap = h0 := by rw [← hh, Bd.state]; rfl
  have N0 := Fr.nil n0
  have pre0 : ∀ t, Steps p.tables e below (s₁.setTop (mkF m 0 #[.val (.int p1), .val (.int p2), .val (.long q3), .second, .unset, .unset, .unset, .unset, .unset, .unset, .unset, .unset, .unset] [])) t → Steps p.tables e below (s₁.setTop (entryFrame m #[(.int p1), (.int p2), (.long q3)] maxLocals)) t := fun t k => castTop (ef_0 m p1 p2 q3) k
  obtain ⟨sh, hsh⟩ : ∃ z : Int32, z = (p1 &&& (65535 : Int32)) := ⟨_, rfl⟩
  have stg_sh : ∀ t, Steps p.tables e below (s₁.setTop (mkF m 6 #[.val (.int p1), .val (.int p2), .val (.long q3), .second, .val (.int sh), .unset, .unset, .unset, .unset, .unset, .unset, .unset, .unset] [])) t → Steps p.tables e below (s₁.setTop (mkF m 6 #[.val (.int p1), .val (.int p2), .val (.long q3), .second, .val (.int (p1 &&& (65535 : Int32))), .unset, .unset, .unset, .unset, .unset, .unset, .unset, .unset] [])) t := by subst hsh; exact fun _ k => k
  obtain ⟨ty, hty⟩ : ∃ z : Int32, z = (p2 &&& (1023 : Int32)) := ⟨_, rfl⟩
  have stg_ty : ∀ t, Steps p.tables e below (s₁.setTop (mkF m 13 #[.val (.int p1), .val (.int p2), .val (.long q3), .second, .val (.int sh), .val (.int ty), .unset, .unset, .unset, .unset, .unset, .unset, .unset] [])) t → Steps p.tables e below (s₁.setTop (mkF m 13 #[.val (.int p1), .val (.int p2), .val (.long q3), .second, .val (.int sh), .val (.int (p2 &&& (1023 : Int32))), .unset, .unset, .unset, .unset, .unset, .unset, .unset] [])) t := by subst hty; exact fun _ k => k
  obtain ⟨lo, hlo⟩ : ∃ z : Int64, z = (q3 &&& (68719476735 : Int64)) := ⟨_, rfl⟩
  have stg_lo : ∀ t, Steps p.tables e below (s₁.setTop (mkF m 20 #[.val (.int p1), .val (.int p2), .val (.long q3), .second, .val (.int sh), .val (.int ty), .val (.long lo), .second, .unset, .unset, .unset, .unset, .unset] [])) t → Steps p.tables e below (s₁.setTop (mkF m 20 #[.val (.int p1), .val (.int p2), .val (.long q3), .second, .val (.int sh), .val (.int ty), .val (.long (q3 &&& (68719476735 : Int64))), .second, .unset, .unset, .unset, .unset, .unset] [])) t := by subst hlo; exact fun _ k => k
  obtain ⟨hs1, hs2, gs⟩ := own_sh hsh
  obtain ⟨ht1, ht2, gt⟩ := own_ty hty
  obtain ⟨hl1, hl2, gl⟩ := own_lo hlo
  obtain ⟨v1, v2, v3, v4, v5, v6⟩ := own_all gs gt gl
  obtain ⟨T1, h1, X1, e1, E1, A1, D1, -, st1⟩ := newO X0 hx hZ hown (hw _ (List.mem_of_getElem? (i := 2) rfl)) (hw _ (List.mem_of_getElem? (i := 3) rfl)) (hw _ (List.mem_of_getElem? (i := 4) rfl)) e0 (g := (mkF m 20 #[.val (.int p1), .val (.int p2), .val (.long q3), .second, .val (.int sh), .val (.int ty), .val (.long lo), .second, .unset, .unset, .unset, .unset, .unset] [])) rfl (hb hby at_20) (by decide) (by decide)
  obtain ⟨b1, g1⟩ : ∃ z, z = h0.size := ⟨_, rfl⟩
  rw [← g1] at A1 D1 st1
  have g_b1 : n0 ≤ b1 := Nat.le_trans Z0 (Nat.le_of_eq g1.symm)
  have Z1 := (Nat.le_trans Z0 E1.1)
  have F_shard_b1 : Fld Z h1 b1 "com/example/verdeel/verdeel/model/VerdeelId" "shard" "I" (.int (0 : Int32)) := D1 (Or.inr (hw _ (List.mem_of_getElem? (i := 22) rfl))) (ty := .int) (by decide)
  have F_type_b1 : Fld Z h1 b1 "com/example/verdeel/verdeel/model/VerdeelId" "type" "I" (.int (0 : Int32)) := D1 (Or.inr (hw _ (List.mem_of_getElem? (i := 24) rfl))) (ty := .int) (by decide)
  have F_local_b1 : Fld Z h1 b1 "com/example/verdeel/verdeel/model/VerdeelId" "local" "J" (.long (0 : Int64)) := D1 (Or.inr (hw _ (List.mem_of_getElem? (i := 26) rfl))) (ty := .long) (by decide)
  obtain ⟨_, _, ⟨T2, L2, k2, n2⟩, -, X2, ⟨Lc2, hQ2, l2, y2, z2⟩, st2⟩ := X1.specialBack hx (y := (⟨"com/example/verdeel/verdeel/model/VerdeelId", "<init>", "(IIJ)V"⟩ : MethodName)) rfl hown (mvT hZ (hw _ (List.mem_of_getElem? (i := 5) rfl))) (mvT hZ (hw _ (List.mem_of_getElem? (i := 6) rfl))) (mvT hZ (hw _ (List.mem_of_getElem? (i := 7) rfl))) (by decide) (backOf (W := 1) (rm1 l Z a0 hw [] b1 sh ty lo (.int (0 : Int32)) (.int (0 : Int32)) (.long (0 : Int64)) h1 n0 Z1 g_b1 A1 F_shard_b1 F_type_b1 F_local_b1 hs1 hs2 ht1 ht2 hl1 hl2) hZ (hw _ (List.mem_of_getElem? (i := 7) rfl)) (hw _ (List.mem_of_getElem? (i := 4) rfl)) (by decide) (by decide)) (g := (mkF m 30 #[.val (.int p1), .val (.int p2), .val (.long q3), .second, .val (.int sh), .val (.int ty), .val (.long lo), .second, .unset, .unset, .unset, .unset, .unset] [(.long lo), (.int ty), (.int sh), (.ref b1), (.ref b1)])) rfl (by rw [hml]; rfl) (Steps.refl _) (a := b1) (argsL := [(.int sh), (.int ty), (.long lo)]) (rest := [(.ref b1)]) (lenOf pd_2 rfl) rfl (by show 2 * 0 + _ ≤ _; exact Nat.le_of_eq rfl) (hb hby at_30) (fun _ _ => ⟨rfl, e1, (by decide : 1 + 0 ≤ _), (by decide : 3 + 0 ≤ _)⟩)
  dsimp only [Pt.U, Pt.locs, Pt.cells, Pt.slots] at X2 l2 y2 z2 st2 hQ2
  subst l2 y2 z2
  obtain ⟨rfl, N2q, K2, E2, Fa2, Fb2, Fc2⟩ := hQ2
  have N2 := Fr.app N0 N2q
  have A1_h2 := (A1.keep K2)
  have Z2 := (Nat.le_trans Z1 K2.1)
  obtain ⟨cq3, kq3, q3a, q3b, q3c⟩ := isOf hZ rfl E2
  obtain ⟨_, _, ⟨T3, L3, k3, n3⟩, -, X3, ⟨Lc3, hQ3, l3, y3, z3⟩, st3⟩ := X2.virtualBack hx (y := (⟨"com/example/verdeel/verdeel/model/VerdeelId", "toLong", "()J"⟩ : MethodName)) (z := (⟨"com/example/verdeel/verdeel/model/VerdeelId", "toLong", "()J"⟩ : MethodName)) hown (mvT hZ (hw _ (List.mem_of_getElem? (i := 27) rfl))) (mvT hZ (hw _ (List.mem_of_getElem? (i := 28) rfl))) (notFace_of_selects (args := #[]) (mvT hZ (hw _ (List.mem_of_getElem? (i := 30) rfl)))) (mvT hZ (hw _ (List.mem_of_getElem? (i := 30) rfl))) (mvT hZ (hw _ (List.mem_of_getElem? (i := 29) rfl))) (by decide) (backOf (W := 0) (rm5 l Z a0 hw [] b1 sh ty lo T2.heap n0 Z2 Fa2 Fb2 Fc2) hZ (hw _ (List.mem_of_getElem? (i := 31) rfl)) (hw _ (List.mem_of_getElem? (i := 4) rfl)) (by decide) (by decide)) q3a q3c (g := (mkF m 37 #[.val (.int p1), .val (.int p2), .val (.long q3), .second, .val (.int sh), .val (.int ty), .val (.long lo), .second, .val (.ref b1), .unset, .unset, .unset, .unset] [(.ref b1)])) rfl (by rw [hml]; rfl) (Steps.refl _) (argsL := []) (rest := []) (lenOf pd_3 rfl) rfl (by show 2 * 0 + _ ≤ _; exact Nat.le_of_eq rfl) (hb hby at_37) (fun _ _ => ⟨rfl, rfl, (by decide : 1 + 0 ≤ _), (by decide : 3 + 0 ≤ _)⟩)
  dsimp only [Pt.U, Pt.locs, Pt.cells, Pt.slots] at X3 l3 y3 z3 st3 hQ3
  subst l3 y3 z3
  obtain ⟨rfl, N3q, e3⟩ := hQ3
  have N3 := Fr.app N2 N3q
  obtain ⟨fs, hr, hrun, hended, hW, hsame⟩ := X3.leave (v := some (.int (1 : Int32))) (fun h => by rw [Bd.returns] at h; cases h)
  refine ⟨_, _, pre0 _ ?_, hrun, hended, _, _, rfl, ?_, ⟨_, rfl⟩, hW, hsame.mono (by decide) (by decide)⟩
  · show Steps p.tables e below (s₁.setTop (mkF m 0 #[.val (.int p1), .val (.int p2), .val (.long q3), .second, .unset, .unset, .unset, .unset, .unset, .unset, .unset, .unset, .unset] [])) _
    refine XS.iloadN X0.here hx rfl (hb hby at_0) rfl ?_
    show Steps p.tables e below (s₁.setTop (mkF m 1 #[.val (.int p1), .val (.int p2), .val (.long q3), .second, .unset, .unset, .unset, .unset, .unset, .unset, .unset, .unset, .unset] [(.int p1)])) _
    refine X0.ldcInt hx hown (mvT hZ (hw _ (List.mem_of_getElem? (i := 0) rfl))) (g := (mkF m 1 #[.val (.int p1), .val (.int p2), .val (.long q3), .second, .unset, .unset, .unset, .unset, .unset, .unset, .unset, .unset, .unset] [(.int p1)])) rfl (hb hby at_1) _ ?_
    show Steps p.tables e below (s₁.setTop (mkF m 3 #[.val (.int p1), .val (.int p2), .val (.long q3), .second, .unset, .unset, .unset, .unset, .unset, .unset, .unset, .unset, .unset] [(.int (65535 : Int32)), (.int p1)])) _
    refine XS.iand X0.here hx rfl (hb hby at_3) rfl ?_
    show Steps p.tables e below (s₁.setTop (mkF m 4 #[.val (.int p1), .val (.int p2), .val (.long q3), .second, .unset, .unset, .unset, .unset, .unset, .unset, .unset, .unset, .unset] [(.int (p1 &&& (65535 : Int32)))])) _
    refine XS.istore X0.here hx rfl (hb hby at_4) rfl (l' := #[.val (.int p1), .val (.int p2), .val (.long q3), .second, .val (.int (p1 &&& (65535 : Int32))), .unset, .unset, .unset, .unset, .unset, .unset, .unset, .unset]) rfl ?_
    show Steps p.tables e below (s₁.setTop (mkF m 6 #[.val (.int p1), .val (.int p2), .val (.long q3), .second, .val (.int (p1 &&& (65535 : Int32))), .unset, .unset, .unset, .unset, .unset, .unset, .unset, .unset] [])) _
    refine stg_sh _ ?_
    show Steps p.tables e below (s₁.setTop (mkF m 6 #[.val (.int p1), .val (.int p2), .val (.long q3), .second, .val (.int sh), .unset, .unset, .unset, .unset, .unset, .unset, .unset, .unset] [])) _
    refine XS.iloadN X0.here hx rfl (hb hby at_6) rfl ?_
    show Steps p.tables e below (s₁.setTop (mkF m 7 #[.val (.int p1), .val (.int p2), .val (.long q3), .second, .val (.int sh), .unset, .unset, .unset, .unset, .unset, .unset, .unset, .unset] [(.int p2)])) _
    refine XS.sipush X0.here hx rfl (hb hby at_7) ?_
    show Steps p.tables e below (s₁.setTop (mkF m 10 #[.val (.int p1), .val (.int p2), .val (.long q3), .second, .val (.int sh), .unset, .unset, .unset, .unset, .unset, .unset, .unset, .unset] [(.int (1023 : Int32)), (.int p2)])) _
    refine XS.iand X0.here hx rfl (hb hby at_10) rfl ?_
    show Steps p.tables e below (s₁.setTop (mkF m 11 #[.val (.int p1), .val (.int p2), .val (.long q3), .second, .val (.int sh), .unset, .unset, .unset, .unset, .unset, .unset, .unset, .unset] [(.int (p2 &&& (1023 : Int32)))])) _
    refine XS.istore X0.here hx rfl (hb hby at_11) rfl (l' := #[.val (.int p1), .val (.int p2), .val (.long q3), .second, .val (.int sh), .val (.int (p2 &&& (1023 : Int32))), .unset, .unset, .unset, .unset, .unset, .unset, .unset]) rfl ?_
    show Steps p.tables e below (s₁.setTop (mkF m 13 #[.val (.int p1), .val (.int p2), .val (.long q3), .second, .val (.int sh), .val (.int (p2 &&& (1023 : Int32))), .unset, .unset, .unset, .unset, .unset, .unset, .unset] [])) _
    refine stg_ty _ ?_
    show Steps p.tables e below (s₁.setTop (mkF m 13 #[.val (.int p1), .val (.int p2), .val (.long q3), .second, .val (.int sh), .val (.int ty), .unset, .unset, .unset, .unset, .unset, .unset, .unset] [])) _
    refine XS.lloadN X0.here hx rfl (hb hby at_13) rfl ?_
    show Steps p.tables e below (s₁.setTop (mkF m 14 #[.val (.int p1), .val (.int p2), .val (.long q3), .second, .val (.int sh), .val (.int ty), .unset, .unset, .unset, .unset, .unset, .unset, .unset] [(.long q3)])) _
    refine X0.ldc2Long hx hown (mvT hZ (hw _ (List.mem_of_getElem? (i := 1) rfl))) (g := (mkF m 14 #[.val (.int p1), .val (.int p2), .val (.long q3), .second, .val (.int sh), .val (.int ty), .unset, .unset, .unset, .unset, .unset, .unset, .unset] [(.long q3)])) rfl (hb hby at_14) _ ?_
    show Steps p.tables e below (s₁.setTop (mkF m 17 #[.val (.int p1), .val (.int p2), .val (.long q3), .second, .val (.int sh), .val (.int ty), .unset, .unset, .unset, .unset, .unset, .unset, .unset] [(.long (68719476735 : Int64)), (.long q3)])) _
    refine XS.land X0.here hx rfl (hb hby at_17) rfl ?_
    show Steps p.tables e below (s₁.setTop (mkF m 18 #[.val (.int p1), .val (.int p2), .val (.long q3), .second, .val (.int sh), .val (.int ty), .unset, .unset, .unset, .unset, .unset, .unset, .unset] [(.long (q3 &&& (68719476735 : Int64)))])) _
    refine XS.lstore X0.here hx rfl (hb hby at_18) rfl (l' := #[.val (.int p1), .val (.int p2), .val (.long q3), .second, .val (.int sh), .val (.int ty), .val (.long (q3 &&& (68719476735 : Int64))), .second, .unset, .unset, .unset, .unset, .unset]) rfl ?_
    show Steps p.tables e below (s₁.setTop (mkF m 20 #[.val (.int p1), .val (.int p2), .val (.long q3), .second, .val (.int sh), .val (.int ty), .val (.long (q3 &&& (68719476735 : Int64))), .second, .unset, .unset, .unset, .unset, .unset] [])) _
    refine stg_lo _ ?_
    show Steps p.tables e below (s₁.setTop (mkF m 20 #[.val (.int p1), .val (.int p2), .val (.long q3), .second, .val (.int sh), .val (.int ty), .val (.long lo), .second, .unset, .unset, .unset, .unset, .unset] [])) _
    refine st1 _ ?_
    show Steps p.tables e below (T1.setTop (mkF m 23 #[.val (.int p1), .val (.int p2), .val (.long q3), .second, .val (.int sh), .val (.int ty), .val (.long lo), .second, .unset, .unset, .unset, .unset, .unset] [(.ref b1)])) _
    refine XS.dup X1.here hx rfl (hb hby at_23) rfl rfl ?_
    show Steps p.tables e below (T1.setTop (mkF m 24 #[.val (.int p1), .val (.int p2), .val (.long q3), .second, .val (.int sh), .val (.int ty), .val (.long lo), .second, .unset, .unset, .unset, .unset, .unset] [(.ref b1), (.ref b1)])) _
    refine XS.iload X1.here hx rfl (hb hby at_24) rfl ?_
    show Steps p.tables e below (T1.setTop (mkF m 26 #[.val (.int p1), .val (.int p2), .val (.long q3), .second, .val (.int sh), .val (.int ty), .val (.long lo), .second, .unset, .unset, .unset, .unset, .unset] [(.int sh), (.ref b1), (.ref b1)])) _
    refine XS.iload X1.here hx rfl (hb hby at_26) rfl ?_
    show Steps p.tables e below (T1.setTop (mkF m 28 #[.val (.int p1), .val (.int p2), .val (.long q3), .second, .val (.int sh), .val (.int ty), .val (.long lo), .second, .unset, .unset, .unset, .unset, .unset] [(.int ty), (.int sh), (.ref b1), (.ref b1)])) _
    refine XS.lload X1.here hx rfl (hb hby at_28) rfl ?_
    show Steps p.tables e below (T1.setTop (mkF m 30 #[.val (.int p1), .val (.int p2), .val (.long q3), .second, .val (.int sh), .val (.int ty), .val (.long lo), .second, .unset, .unset, .unset, .unset, .unset] [(.long lo), (.int ty), (.int sh), (.ref b1), (.ref b1)])) _
    refine st2.trans ?_
    show Steps p.tables e below (T2.setTop (mkF m 33 #[.val (.int p1), .val (.int p2), .val (.long q3), .second, .val (.int sh), .val (.int ty), .val (.long lo), .second, .unset, .unset, .unset, .unset, .unset] [(.ref b1)])) _
    refine XS.astore X2.here hx rfl (hb hby at_33) rfl rfl (l' := #[.val (.int p1), .val (.int p2), .val (.long q3), .second, .val (.int sh), .val (.int ty), .val (.long lo), .second, .val (.ref b1), .unset, .unset, .unset, .unset]) rfl ?_
    show Steps p.tables e below (T2.setTop (mkF m 35 #[.val (.int p1), .val (.int p2), .val (.long q3), .second, .val (.int sh), .val (.int ty), .val (.long lo), .second, .val (.ref b1), .unset, .unset, .unset, .unset] [])) _
    refine XS.aload X2.here hx rfl (hb hby at_35) rfl rfl ?_
    show Steps p.tables e below (T2.setTop (mkF m 37 #[.val (.int p1), .val (.int p2), .val (.long q3), .second, .val (.int sh), .val (.int ty), .val (.long lo), .second, .val (.ref b1), .unset, .unset, .unset, .unset] [(.ref b1)])) _
    refine st3.trans ?_
    show Steps p.tables e below (T3.setTop (mkF m 40 #[.val (.int p1), .val (.int p2), .val (.long q3), .second, .val (.int sh), .val (.int ty), .val (.long lo), .second, .val (.ref b1), .unset, .unset, .unset, .unset] [(.long (own_v sh ty lo))])) _
    refine XS.lstore X3.here hx rfl (hb hby at_40) rfl (l' := #[.val (.int p1), .val (.int p2), .val (.long q3), .second, .val (.int sh), .val (.int ty), .val (.long lo), .second, .val (.ref b1), .val (.long (own_v sh ty lo)), .second, .unset, .unset]) rfl ?_
    show Steps p.tables e below (T3.setTop (mkF m 42 #[.val (.int p1), .val (.int p2), .val (.long q3), .second, .val (.int sh), .val (.int ty), .val (.long lo), .second, .val (.ref b1), .val (.long (own_v sh ty lo)), .second, .unset, .unset] [])) _
    refine XS.lload X3.here hx rfl (hb hby at_42) rfl ?_
    show Steps p.tables e below (T3.setTop (mkF m 44 #[.val (.int p1), .val (.int p2), .val (.long q3), .second, .val (.int sh), .val (.int ty), .val (.long lo), .second, .val (.ref b1), .val (.long (own_v sh ty lo)), .second, .unset, .unset] [(.long (own_v sh ty lo))])) _
    refine XS.lconst X3.here hx rfl (hb hby at_44) ?_
    show Steps p.tables e below (T3.setTop (mkF m 45 #[.val (.int p1), .val (.int p2), .val (.long q3), .second, .val (.int sh), .val (.int ty), .val (.long lo), .second, .val (.ref b1), .val (.long (own_v sh ty lo)), .second, .unset, .unset] [(.long (0 : Int64)), (.long (own_v sh ty lo))])) _
    refine XS.lcmp X3.here hx rfl (hb hby at_45) rfl ?_
    show Steps p.tables e below (T3.setTop (mkF m 46 #[.val (.int p1), .val (.int p2), .val (.long q3), .second, .val (.int sh), .val (.int ty), .val (.long lo), .second, .val (.ref b1), .val (.long (own_v sh ty lo)), .second, .unset, .unset] [(.int (lcmpW (own_v sh ty lo) (0 : Int64)))])) _
    refine XS.ifNo X3.here hx rfl (hb hby at_46) rfl ((if0 _ _).trans (flt (fun q => v1 ((lw_lt _ _).mp q) : ¬ ((lcmpW (own_v sh ty lo) (0 : Int64)) < (0 : Int32)))).1) ?_
    show Steps p.tables e below (T3.setTop (mkF m 49 #[.val (.int p1), .val (.int p2), .val (.long q3), .second, .val (.int sh), .val (.int ty), .val (.long lo), .second, .val (.ref b1), .val (.long (own_v sh ty lo)), .second, .unset, .unset] [])) _
    refine XS.lload X3.here hx rfl (hb hby at_49) rfl ?_
    show Steps p.tables e below (T3.setTop (mkF m 51 #[.val (.int p1), .val (.int p2), .val (.long q3), .second, .val (.int sh), .val (.int ty), .val (.long lo), .second, .val (.ref b1), .val (.long (own_v sh ty lo)), .second, .unset, .unset] [(.long (own_v sh ty lo))])) _
    refine X3.ldc2Long hx hown (mvT hZ (hw _ (List.mem_of_getElem? (i := 32) rfl))) (g := (mkF m 51 #[.val (.int p1), .val (.int p2), .val (.long q3), .second, .val (.int sh), .val (.int ty), .val (.long lo), .second, .val (.ref b1), .val (.long (own_v sh ty lo)), .second, .unset, .unset] [(.long (own_v sh ty lo))])) rfl (hb hby at_51) _ ?_
    show Steps p.tables e below (T3.setTop (mkF m 54 #[.val (.int p1), .val (.int p2), .val (.long q3), .second, .val (.int sh), .val (.int ty), .val (.long lo), .second, .val (.ref b1), .val (.long (own_v sh ty lo)), .second, .unset, .unset] [(.long (4611686018427387903 : Int64)), (.long (own_v sh ty lo))])) _
    refine XS.lcmp X3.here hx rfl (hb hby at_54) rfl ?_
    show Steps p.tables e below (T3.setTop (mkF m 55 #[.val (.int p1), .val (.int p2), .val (.long q3), .second, .val (.int sh), .val (.int ty), .val (.long lo), .second, .val (.ref b1), .val (.long (own_v sh ty lo)), .second, .unset, .unset] [(.int (lcmpW (own_v sh ty lo) (4611686018427387903 : Int64)))])) _
    refine XS.ifYes X3.here hx rfl (pc0 := 55) (pc' := 60) rfl (hb hby at_55) rfl ((if0 _ _).trans (flt (fun q => v2 ((lw_gt _ _).mp q) : ¬ ((0 : Int32) < (lcmpW (own_v sh ty lo) (4611686018427387903 : Int64))))).2.2.2) (by decide) (by decide) ?_
    show Steps p.tables e below (T3.setTop (mkF m 60 #[.val (.int p1), .val (.int p2), .val (.long q3), .second, .val (.int sh), .val (.int ty), .val (.long lo), .second, .val (.ref b1), .val (.long (own_v sh ty lo)), .second, .unset, .unset] [])) _
    refine XS.lload X3.here hx rfl (hb hby at_60) rfl ?_
    show Steps p.tables e below (T3.setTop (mkF m 62 #[.val (.int p1), .val (.int p2), .val (.long q3), .second, .val (.int sh), .val (.int ty), .val (.long lo), .second, .val (.ref b1), .val (.long (own_v sh ty lo)), .second, .unset, .unset] [(.long (own_v sh ty lo))])) _
    refine X3.ldc2Long hx hown (mvT hZ (hw _ (List.mem_of_getElem? (i := 33) rfl))) (g := (mkF m 62 #[.val (.int p1), .val (.int p2), .val (.long q3), .second, .val (.int sh), .val (.int ty), .val (.long lo), .second, .val (.ref b1), .val (.long (own_v sh ty lo)), .second, .unset, .unset] [(.long (own_v sh ty lo))])) rfl (hb hby at_62) _ ?_
    show Steps p.tables e below (T3.setTop (mkF m 65 #[.val (.int p1), .val (.int p2), .val (.long q3), .second, .val (.int sh), .val (.int ty), .val (.long lo), .second, .val (.ref b1), .val (.long (own_v sh ty lo)), .second, .unset, .unset] [(.long (70368744177664 : Int64)), (.long (own_v sh ty lo))])) _
    refine XS.ldiv X3.here hx rfl (hb hby at_65) rfl (by decide) ?_
    show Steps p.tables e below (T3.setTop (mkF m 66 #[.val (.int p1), .val (.int p2), .val (.long q3), .second, .val (.int sh), .val (.int ty), .val (.long lo), .second, .val (.ref b1), .val (.long (own_v sh ty lo)), .second, .unset, .unset] [(.long ((own_v sh ty lo) / (70368744177664 : Int64)))])) _
    refine XS.iload X3.here hx rfl (hb hby at_66) rfl ?_
    show Steps p.tables e below (T3.setTop (mkF m 68 #[.val (.int p1), .val (.int p2), .val (.long q3), .second, .val (.int sh), .val (.int ty), .val (.long lo), .second, .val (.ref b1), .val (.long (own_v sh ty lo)), .second, .unset, .unset] [(.int sh), (.long ((own_v sh ty lo) / (70368744177664 : Int64)))])) _
    refine XS.i2l X3.here hx rfl (hb hby at_68) rfl ?_
    show Steps p.tables e below (T3.setTop (mkF m 69 #[.val (.int p1), .val (.int p2), .val (.long q3), .second, .val (.int sh), .val (.int ty), .val (.long lo), .second, .val (.ref b1), .val (.long (own_v sh ty lo)), .second, .unset, .unset] [(.long (sh.toInt64)), (.long ((own_v sh ty lo) / (70368744177664 : Int64)))])) _
    refine XS.lcmp X3.here hx rfl (hb hby at_69) rfl ?_
    show Steps p.tables e below (T3.setTop (mkF m 70 #[.val (.int p1), .val (.int p2), .val (.long q3), .second, .val (.int sh), .val (.int ty), .val (.long lo), .second, .val (.ref b1), .val (.long (own_v sh ty lo)), .second, .unset, .unset] [(.int (lcmpW ((own_v sh ty lo) / (70368744177664 : Int64)) (sh.toInt64)))])) _
    refine XS.ifYes X3.here hx rfl (pc0 := 70) (pc' := 75) rfl (hb hby at_70) rfl ((if0 _ _).trans (teq ((lw_eq _ _).mpr v3 : (lcmpW ((own_v sh ty lo) / (70368744177664 : Int64)) (sh.toInt64)) = (0 : Int32))).1) (by decide) (by decide) ?_
    show Steps p.tables e below (T3.setTop (mkF m 75 #[.val (.int p1), .val (.int p2), .val (.long q3), .second, .val (.int sh), .val (.int ty), .val (.long lo), .second, .val (.ref b1), .val (.long (own_v sh ty lo)), .second, .unset, .unset] [])) _
    refine XS.lload X3.here hx rfl (hb hby at_75) rfl ?_
    show Steps p.tables e below (T3.setTop (mkF m 77 #[.val (.int p1), .val (.int p2), .val (.long q3), .second, .val (.int sh), .val (.int ty), .val (.long lo), .second, .val (.ref b1), .val (.long (own_v sh ty lo)), .second, .unset, .unset] [(.long (own_v sh ty lo))])) _
    refine X3.ldc2Long hx hown (mvT hZ (hw _ (List.mem_of_getElem? (i := 34) rfl))) (g := (mkF m 77 #[.val (.int p1), .val (.int p2), .val (.long q3), .second, .val (.int sh), .val (.int ty), .val (.long lo), .second, .val (.ref b1), .val (.long (own_v sh ty lo)), .second, .unset, .unset] [(.long (own_v sh ty lo))])) rfl (hb hby at_77) _ ?_
    show Steps p.tables e below (T3.setTop (mkF m 80 #[.val (.int p1), .val (.int p2), .val (.long q3), .second, .val (.int sh), .val (.int ty), .val (.long lo), .second, .val (.ref b1), .val (.long (own_v sh ty lo)), .second, .unset, .unset] [(.long (68719476736 : Int64)), (.long (own_v sh ty lo))])) _
    refine XS.ldiv X3.here hx rfl (hb hby at_80) rfl (by decide) ?_
    show Steps p.tables e below (T3.setTop (mkF m 81 #[.val (.int p1), .val (.int p2), .val (.long q3), .second, .val (.int sh), .val (.int ty), .val (.long lo), .second, .val (.ref b1), .val (.long (own_v sh ty lo)), .second, .unset, .unset] [(.long ((own_v sh ty lo) / (68719476736 : Int64)))])) _
    refine X3.ldc2Long hx hown (mvT hZ (hw _ (List.mem_of_getElem? (i := 35) rfl))) (g := (mkF m 81 #[.val (.int p1), .val (.int p2), .val (.long q3), .second, .val (.int sh), .val (.int ty), .val (.long lo), .second, .val (.ref b1), .val (.long (own_v sh ty lo)), .second, .unset, .unset] [(.long ((own_v sh ty lo) / (68719476736 : Int64)))])) rfl (hb hby at_81) _ ?_
    show Steps p.tables e below (T3.setTop (mkF m 84 #[.val (.int p1), .val (.int p2), .val (.long q3), .second, .val (.int sh), .val (.int ty), .val (.long lo), .second, .val (.ref b1), .val (.long (own_v sh ty lo)), .second, .unset, .unset] [(.long (1024 : Int64)), (.long ((own_v sh ty lo) / (68719476736 : Int64)))])) _
    refine XS.lrem X3.here hx rfl (hb hby at_84) rfl (by decide) ?_
    show Steps p.tables e below (T3.setTop (mkF m 85 #[.val (.int p1), .val (.int p2), .val (.long q3), .second, .val (.int sh), .val (.int ty), .val (.long lo), .second, .val (.ref b1), .val (.long (own_v sh ty lo)), .second, .unset, .unset] [(.long (((own_v sh ty lo) / (68719476736 : Int64)) - (((own_v sh ty lo) / (68719476736 : Int64)) / (1024 : Int64)) * (1024 : Int64)))])) _
    refine XS.iload X3.here hx rfl (hb hby at_85) rfl ?_
    show Steps p.tables e below (T3.setTop (mkF m 87 #[.val (.int p1), .val (.int p2), .val (.long q3), .second, .val (.int sh), .val (.int ty), .val (.long lo), .second, .val (.ref b1), .val (.long (own_v sh ty lo)), .second, .unset, .unset] [(.int ty), (.long (((own_v sh ty lo) / (68719476736 : Int64)) - (((own_v sh ty lo) / (68719476736 : Int64)) / (1024 : Int64)) * (1024 : Int64)))])) _
    refine XS.i2l X3.here hx rfl (hb hby at_87) rfl ?_
    show Steps p.tables e below (T3.setTop (mkF m 88 #[.val (.int p1), .val (.int p2), .val (.long q3), .second, .val (.int sh), .val (.int ty), .val (.long lo), .second, .val (.ref b1), .val (.long (own_v sh ty lo)), .second, .unset, .unset] [(.long (ty.toInt64)), (.long (((own_v sh ty lo) / (68719476736 : Int64)) - (((own_v sh ty lo) / (68719476736 : Int64)) / (1024 : Int64)) * (1024 : Int64)))])) _
    refine XS.lcmp X3.here hx rfl (hb hby at_88) rfl ?_
    show Steps p.tables e below (T3.setTop (mkF m 89 #[.val (.int p1), .val (.int p2), .val (.long q3), .second, .val (.int sh), .val (.int ty), .val (.long lo), .second, .val (.ref b1), .val (.long (own_v sh ty lo)), .second, .unset, .unset] [(.int (lcmpW (((own_v sh ty lo) / (68719476736 : Int64)) - (((own_v sh ty lo) / (68719476736 : Int64)) / (1024 : Int64)) * (1024 : Int64)) (ty.toInt64)))])) _
    refine XS.ifYes X3.here hx rfl (pc0 := 89) (pc' := 94) rfl (hb hby at_89) rfl ((if0 _ _).trans (teq ((lw_eq _ _).mpr v4 : (lcmpW (((own_v sh ty lo) / (68719476736 : Int64)) - (((own_v sh ty lo) / (68719476736 : Int64)) / (1024 : Int64)) * (1024 : Int64)) (ty.toInt64)) = (0 : Int32))).1) (by decide) (by decide) ?_
    show Steps p.tables e below (T3.setTop (mkF m 94 #[.val (.int p1), .val (.int p2), .val (.long q3), .second, .val (.int sh), .val (.int ty), .val (.long lo), .second, .val (.ref b1), .val (.long (own_v sh ty lo)), .second, .unset, .unset] [])) _
    refine XS.lload X3.here hx rfl (hb hby at_94) rfl ?_
    show Steps p.tables e below (T3.setTop (mkF m 96 #[.val (.int p1), .val (.int p2), .val (.long q3), .second, .val (.int sh), .val (.int ty), .val (.long lo), .second, .val (.ref b1), .val (.long (own_v sh ty lo)), .second, .unset, .unset] [(.long (own_v sh ty lo))])) _
    refine X3.ldc2Long hx hown (mvT hZ (hw _ (List.mem_of_getElem? (i := 34) rfl))) (g := (mkF m 96 #[.val (.int p1), .val (.int p2), .val (.long q3), .second, .val (.int sh), .val (.int ty), .val (.long lo), .second, .val (.ref b1), .val (.long (own_v sh ty lo)), .second, .unset, .unset] [(.long (own_v sh ty lo))])) rfl (hb hby at_96) _ ?_
    show Steps p.tables e below (T3.setTop (mkF m 99 #[.val (.int p1), .val (.int p2), .val (.long q3), .second, .val (.int sh), .val (.int ty), .val (.long lo), .second, .val (.ref b1), .val (.long (own_v sh ty lo)), .second, .unset, .unset] [(.long (68719476736 : Int64)), (.long (own_v sh ty lo))])) _
    refine XS.lrem X3.here hx rfl (hb hby at_99) rfl (by decide) ?_
    show Steps p.tables e below (T3.setTop (mkF m 100 #[.val (.int p1), .val (.int p2), .val (.long q3), .second, .val (.int sh), .val (.int ty), .val (.long lo), .second, .val (.ref b1), .val (.long (own_v sh ty lo)), .second, .unset, .unset] [(.long ((own_v sh ty lo) - ((own_v sh ty lo) / (68719476736 : Int64)) * (68719476736 : Int64)))])) _
    refine XS.lload X3.here hx rfl (hb hby at_100) rfl ?_
    show Steps p.tables e below (T3.setTop (mkF m 102 #[.val (.int p1), .val (.int p2), .val (.long q3), .second, .val (.int sh), .val (.int ty), .val (.long lo), .second, .val (.ref b1), .val (.long (own_v sh ty lo)), .second, .unset, .unset] [(.long lo), (.long ((own_v sh ty lo) - ((own_v sh ty lo) / (68719476736 : Int64)) * (68719476736 : Int64)))])) _
    refine XS.lcmp X3.here hx rfl (hb hby at_102) rfl ?_
    show Steps p.tables e below (T3.setTop (mkF m 103 #[.val (.int p1), .val (.int p2), .val (.long q3), .second, .val (.int sh), .val (.int ty), .val (.long lo), .second, .val (.ref b1), .val (.long (own_v sh ty lo)), .second, .unset, .unset] [(.int (lcmpW ((own_v sh ty lo) - ((own_v sh ty lo) / (68719476736 : Int64)) * (68719476736 : Int64)) lo))])) _
    refine XS.ifYes X3.here hx rfl (pc0 := 103) (pc' := 108) rfl (hb hby at_103) rfl ((if0 _ _).trans (teq ((lw_eq _ _).mpr v5 : (lcmpW ((own_v sh ty lo) - ((own_v sh ty lo) / (68719476736 : Int64)) * (68719476736 : Int64)) lo) = (0 : Int32))).1) (by decide) (by decide) ?_
    show Steps p.tables e below (T3.setTop (mkF m 108 #[.val (.int p1), .val (.int p2), .val (.long q3), .second, .val (.int sh), .val (.int ty), .val (.long lo), .second, .val (.ref b1), .val (.long (own_v sh ty lo)), .second, .unset, .unset] [])) _
    refine XS.iload X3.here hx rfl (hb hby at_108) rfl ?_
    show Steps p.tables e below (T3.setTop (mkF m 110 #[.val (.int p1), .val (.int p2), .val (.long q3), .second, .val (.int sh), .val (.int ty), .val (.long lo), .second, .val (.ref b1), .val (.long (own_v sh ty lo)), .second, .unset, .unset] [(.int sh)])) _
    refine XS.i2l X3.here hx rfl (hb hby at_110) rfl ?_
    show Steps p.tables e below (T3.setTop (mkF m 111 #[.val (.int p1), .val (.int p2), .val (.long q3), .second, .val (.int sh), .val (.int ty), .val (.long lo), .second, .val (.ref b1), .val (.long (own_v sh ty lo)), .second, .unset, .unset] [(.long (sh.toInt64))])) _
    refine X3.ldc2Long hx hown (mvT hZ (hw _ (List.mem_of_getElem? (i := 33) rfl))) (g := (mkF m 111 #[.val (.int p1), .val (.int p2), .val (.long q3), .second, .val (.int sh), .val (.int ty), .val (.long lo), .second, .val (.ref b1), .val (.long (own_v sh ty lo)), .second, .unset, .unset] [(.long (sh.toInt64))])) rfl (hb hby at_111) _ ?_
    show Steps p.tables e below (T3.setTop (mkF m 114 #[.val (.int p1), .val (.int p2), .val (.long q3), .second, .val (.int sh), .val (.int ty), .val (.long lo), .second, .val (.ref b1), .val (.long (own_v sh ty lo)), .second, .unset, .unset] [(.long (70368744177664 : Int64)), (.long (sh.toInt64))])) _
    refine XS.lmul X3.here hx rfl (hb hby at_114) rfl ?_
    show Steps p.tables e below (T3.setTop (mkF m 115 #[.val (.int p1), .val (.int p2), .val (.long q3), .second, .val (.int sh), .val (.int ty), .val (.long lo), .second, .val (.ref b1), .val (.long (own_v sh ty lo)), .second, .unset, .unset] [(.long ((sh.toInt64) * (70368744177664 : Int64)))])) _
    refine XS.iload X3.here hx rfl (hb hby at_115) rfl ?_
    show Steps p.tables e below (T3.setTop (mkF m 117 #[.val (.int p1), .val (.int p2), .val (.long q3), .second, .val (.int sh), .val (.int ty), .val (.long lo), .second, .val (.ref b1), .val (.long (own_v sh ty lo)), .second, .unset, .unset] [(.int ty), (.long ((sh.toInt64) * (70368744177664 : Int64)))])) _
    refine XS.i2l X3.here hx rfl (hb hby at_117) rfl ?_
    show Steps p.tables e below (T3.setTop (mkF m 118 #[.val (.int p1), .val (.int p2), .val (.long q3), .second, .val (.int sh), .val (.int ty), .val (.long lo), .second, .val (.ref b1), .val (.long (own_v sh ty lo)), .second, .unset, .unset] [(.long (ty.toInt64)), (.long ((sh.toInt64) * (70368744177664 : Int64)))])) _
    refine X3.ldc2Long hx hown (mvT hZ (hw _ (List.mem_of_getElem? (i := 34) rfl))) (g := (mkF m 118 #[.val (.int p1), .val (.int p2), .val (.long q3), .second, .val (.int sh), .val (.int ty), .val (.long lo), .second, .val (.ref b1), .val (.long (own_v sh ty lo)), .second, .unset, .unset] [(.long (ty.toInt64)), (.long ((sh.toInt64) * (70368744177664 : Int64)))])) rfl (hb hby at_118) _ ?_
    show Steps p.tables e below (T3.setTop (mkF m 121 #[.val (.int p1), .val (.int p2), .val (.long q3), .second, .val (.int sh), .val (.int ty), .val (.long lo), .second, .val (.ref b1), .val (.long (own_v sh ty lo)), .second, .unset, .unset] [(.long (68719476736 : Int64)), (.long (ty.toInt64)), (.long ((sh.toInt64) * (70368744177664 : Int64)))])) _
    refine XS.lmul X3.here hx rfl (hb hby at_121) rfl ?_
    show Steps p.tables e below (T3.setTop (mkF m 122 #[.val (.int p1), .val (.int p2), .val (.long q3), .second, .val (.int sh), .val (.int ty), .val (.long lo), .second, .val (.ref b1), .val (.long (own_v sh ty lo)), .second, .unset, .unset] [(.long ((ty.toInt64) * (68719476736 : Int64))), (.long ((sh.toInt64) * (70368744177664 : Int64)))])) _
    refine XS.ladd X3.here hx rfl (hb hby at_122) rfl ?_
    show Steps p.tables e below (T3.setTop (mkF m 123 #[.val (.int p1), .val (.int p2), .val (.long q3), .second, .val (.int sh), .val (.int ty), .val (.long lo), .second, .val (.ref b1), .val (.long (own_v sh ty lo)), .second, .unset, .unset] [(.long (((sh.toInt64) * (70368744177664 : Int64)) + ((ty.toInt64) * (68719476736 : Int64))))])) _
    refine XS.lload X3.here hx rfl (hb hby at_123) rfl ?_
    show Steps p.tables e below (T3.setTop (mkF m 125 #[.val (.int p1), .val (.int p2), .val (.long q3), .second, .val (.int sh), .val (.int ty), .val (.long lo), .second, .val (.ref b1), .val (.long (own_v sh ty lo)), .second, .unset, .unset] [(.long lo), (.long (((sh.toInt64) * (70368744177664 : Int64)) + ((ty.toInt64) * (68719476736 : Int64))))])) _
    refine XS.ladd X3.here hx rfl (hb hby at_125) rfl ?_
    show Steps p.tables e below (T3.setTop (mkF m 126 #[.val (.int p1), .val (.int p2), .val (.long q3), .second, .val (.int sh), .val (.int ty), .val (.long lo), .second, .val (.ref b1), .val (.long (own_v sh ty lo)), .second, .unset, .unset] [(.long ((((sh.toInt64) * (70368744177664 : Int64)) + ((ty.toInt64) * (68719476736 : Int64))) + lo))])) _
    refine XS.lstore X3.here hx rfl (hb hby at_126) rfl (l' := #[.val (.int p1), .val (.int p2), .val (.long q3), .second, .val (.int sh), .val (.int ty), .val (.long lo), .second, .val (.ref b1), .val (.long (own_v sh ty lo)), .second, .val (.long ((((sh.toInt64) * (70368744177664 : Int64)) + ((ty.toInt64) * (68719476736 : Int64))) + lo)), .second]) rfl ?_
    show Steps p.tables e below (T3.setTop (mkF m 128 #[.val (.int p1), .val (.int p2), .val (.long q3), .second, .val (.int sh), .val (.int ty), .val (.long lo), .second, .val (.ref b1), .val (.long (own_v sh ty lo)), .second, .val (.long ((((sh.toInt64) * (70368744177664 : Int64)) + ((ty.toInt64) * (68719476736 : Int64))) + lo)), .second] [])) _
    refine XS.lload X3.here hx rfl (hb hby at_128) rfl ?_
    show Steps p.tables e below (T3.setTop (mkF m 130 #[.val (.int p1), .val (.int p2), .val (.long q3), .second, .val (.int sh), .val (.int ty), .val (.long lo), .second, .val (.ref b1), .val (.long (own_v sh ty lo)), .second, .val (.long ((((sh.toInt64) * (70368744177664 : Int64)) + ((ty.toInt64) * (68719476736 : Int64))) + lo)), .second] [(.long (own_v sh ty lo))])) _
    refine XS.lload X3.here hx rfl (hb hby at_130) rfl ?_
    show Steps p.tables e below (T3.setTop (mkF m 132 #[.val (.int p1), .val (.int p2), .val (.long q3), .second, .val (.int sh), .val (.int ty), .val (.long lo), .second, .val (.ref b1), .val (.long (own_v sh ty lo)), .second, .val (.long ((((sh.toInt64) * (70368744177664 : Int64)) + ((ty.toInt64) * (68719476736 : Int64))) + lo)), .second] [(.long ((((sh.toInt64) * (70368744177664 : Int64)) + ((ty.toInt64) * (68719476736 : Int64))) + lo)), (.long (own_v sh ty lo))])) _
    refine XS.lcmp X3.here hx rfl (hb hby at_132) rfl ?_
    show Steps p.tables e below (T3.setTop (mkF m 133 #[.val (.int p1), .val (.int p2), .val (.long q3), .second, .val (.int sh), .val (.int ty), .val (.long lo), .second, .val (.ref b1), .val (.long (own_v sh ty lo)), .second, .val (.long ((((sh.toInt64) * (70368744177664 : Int64)) + ((ty.toInt64) * (68719476736 : Int64))) + lo)), .second] [(.int (lcmpW (own_v sh ty lo) ((((sh.toInt64) * (70368744177664 : Int64)) + ((ty.toInt64) * (68719476736 : Int64))) + lo)))])) _
    refine XS.ifNo X3.here hx rfl (hb hby at_133) rfl ((if0 _ _).trans (teq ((lw_eq _ _).mpr v6 : (lcmpW (own_v sh ty lo) ((((sh.toInt64) * (70368744177664 : Int64)) + ((ty.toInt64) * (68719476736 : Int64))) + lo)) = (0 : Int32))).2) ?_
    show Steps p.tables e below (T3.setTop (mkF m 136 #[.val (.int p1), .val (.int p2), .val (.long q3), .second, .val (.int sh), .val (.int ty), .val (.long lo), .second, .val (.ref b1), .val (.long (own_v sh ty lo)), .second, .val (.long ((((sh.toInt64) * (70368744177664 : Int64)) + ((ty.toInt64) * (68719476736 : Int64))) + lo)), .second] [])) _
    refine XS.iconst X3.here hx rfl (hb hby at_136) ?_
    show Steps p.tables e below (T3.setTop (mkF m 137 #[.val (.int p1), .val (.int p2), .val (.long q3), .second, .val (.int sh), .val (.int ty), .val (.long lo), .second, .val (.ref b1), .val (.long (own_v sh ty lo)), .second, .val (.long ((((sh.toInt64) * (70368744177664 : Int64)) + ((ty.toInt64) * (68719476736 : Int64))) + lo)), .second] [(.int (1 : Int32))])) _
    refine XS.goto X3.here hx rfl (pc0 := 137) (pc' := 141) rfl (hb hby at_137) (by decide) (by decide) ?_
    show Steps p.tables e below (T3.setTop (mkF m 141 #[.val (.int p1), .val (.int p2), .val (.long q3), .second, .val (.int sh), .val (.int ty), .val (.long lo), .second, .val (.ref b1), .val (.long (own_v sh ty lo)), .second, .val (.long ((((sh.toInt64) * (70368744177664 : Int64)) + ((ty.toInt64) * (68719476736 : Int64))) + lo)), .second] [(.int (1 : Int32))])) _
    exact retN X3 hx (t := .boolean) Bd.returns (by simp) (hb hby at_141) hr
  · show Q0 Z p1 p2 q3  h0 n0 _ T3.heap _
    rw [e3]
    exact ⟨rfl, N3⟩

set_option maxRecDepth 65536 in
set_option maxHeartbeats 40000000 in
theorem comes_1 {Post : Tables → Env → Array Value → State → Outcome → State → Prop} (hpost : ∀ tb e args s v u, (limb_1_1.after args s (.returned v) u = true ∧ limb_1_2.after args s (.returned v) u = true ∧ True) → FrameEnd s (.returned v) u (Jvm.fieldLocs frame_1_writes args s ++ Jvm.arrayLocs frame_1_arrays args s ++ Jvm.staticLocs frame_1_statics s) 16 128 → Post tb e args s (.returned v) u) :
    ArmFor flags0 classFile x code maxLocals ret World_1 tables_1 room_1 Calls_1 rest_1 Pre_1 Post := by
  intro l hfl _ _ p e ha hc hk s m args below hf hA hF happ hP
  obtain ⟨hcalls, hrest, hpre⟩ := hP
  obtain ⟨-, -, -, hnamed, -, -, -, hat⟩ := (Spec.applies_iff hf).mp happ
  obtain ⟨hg, hn⟩ := and_e (Cond.before_iff.mp (show (Jvm.Cond.and given_1 narrow_1).before args s = true from hpre))
  obtain ⟨g0, k0⟩ := and_e hg
  obtain ⟨g1, k1⟩ := and_e k0
  obtain ⟨g2, k2⟩ := and_e k1
  obtain ⟨w0, w1, w2, rfl⟩ : ∃ w0 w1 w2 : Value, args = #[w0, w1, w2] := by
    have hs : args.size = 3 := by simpa [Cond.value, given_1] using g0
    obtain ⟨L⟩ := args
    match L, hs with
    | [w0, w1, w2], _ => exact ⟨w0, w1, w2, rfl⟩
  have hw := fun d (hd : d ∈ tables_1) => atoms_spec (ws := Jvm.Cond.code x code maxLocals ret :: tables_1) hat d (List.mem_cons_of_mem _ hd)
  obtain ⟨i0, ei0⟩ := is_v g1
  obtain rfl : w0 = (.int i0) := Option.some.inj ei0
  obtain ⟨i1, ei1⟩ := is_v g2
  obtain rfl : w1 = (.int i1) := Option.some.inj ei1
  obtain ⟨i2, ei2⟩ := isL_v k2
  obtain rfl : w2 = (.long i2) := Option.some.inj ei2
  obtain ⟨n, o, h1, h2, h3, _, L, rfl, ⟨rfl, N⟩, hq⟩ := rm0 l s _ hw tables_1 i0 i1 i2 s.heap s.heap.size (Nat.le_refl _) p e ha hc hk s m _ below hf ((Spec.applies_iff_loose hf).mp happ).1 ⟨rfl, State.Warmed39.refl s, rfl⟩ trivial
  refine ⟨n, _, h1, h2, h3, hpost _ _ _ _ _ _ ⟨Cond.after_iff.mpr rfl, Cond.after_iff.mpr (eq_i res_at (Term.int_eval (1)) rfl), trivial⟩ ⟨hq.1, hq.2.1, (hq.2.2.sift fun y hy => Or.inr (N y hy)).mono (by decide) (by decide)⟩⟩
theorem main_1_1 : Claimed_1_1 := comes_1 fun _ _ _ _ _ _ h hF => ⟨h.1, hF⟩
theorem main_1_2 : Claimed_1_2 := comes_1 fun _ _ _ _ _ _ h hF => ⟨h.2.1, hF⟩

end Jvm.Pilot.@@N@@
namespace Jvm.Pilot.@@N@@
open Jvm Jvm.ClassFile Sem Op Lib Jvm.Free Jvm.Stand Jvm.Pilot.@@N@@.Jvm.D
/-! MADE BY PROGRAM (witnessworld.py) out of the Statement's table words and the real class files: 10 classes; the members and pool entries that the words name. The judged class is class 1, her method 1. -/
namespace start1
open Jvm.ClassFile
def u (s : String) : CpInfo := .utf8 (stringToUtf16 s)
/-- a pool by its gaps: so many unusable entries, then the entry; so many at the end -/
def gap : Nat → List CpInfo → List CpInfo
  | 0, r => r
  | n + 1, r => .unusable :: gap n r
def poolList (es : List (Nat × CpInfo)) (last : Nat) : List CpInfo := es.foldr (fun e r => gap e.1 (e.2 :: r)) (gap last [])
def pool (es : List (Nat × CpInfo)) (last : Nat) : Array CpInfo := ⟨poolList es last⟩
def fileOf (pool : Array CpInfo) (this : Nat) (attrs : Array Attribute := #[]) (ms : Array MethodInfo := #[]) (fl : Nat := 33) (sup : Nat := 0) (ifs : Array Nat := #[]) (fds : Array FieldInfo := #[]) : ClassFile where
  minorVersion := 0
  majorVersion := 65
  constantPool := pool
  accessFlags := fl
  thisClass := this
  superClass := sup
  interfaces := ifs
  fields := fds
  methods := ms
  attributes := attrs
def plain (name : String) (sup : Option ClassId) : Class where
  name := name
  kind := .ordinary
  loader := none
  accessFlags := 33
  super := sup
  interfaces := #[]
  cf := none
  fields := #[]
  methods := #[]
  instanceTypes := #[]
  staticTypes := #[]
  resolved := #[]
  callSites := []
  init := .initialized
  statics := none
  mirror := none

def pool0 : Array CpInfo := pool [(5, u "<init>"), (0, u "()V"), (1, .class_ 10), (1, u "java/lang/Object")] 113

def k0c0 : Code := { maxStack := 0, maxLocals := 1, code := object_method_1_code, exceptionTable := #[], attributes := #[] }
def k0m0 : Method := { name := "<init>", desc := "()V", sig := { parameters := [], returnType := none }, accessFlags := 1, code := some k0c0 }
/-- java/lang/Object -/
def k0 : Class := { plain "java/lang/Object" none with
  accessFlags := 33
  interfaces := #[]
  cf := some (fileOf pool0 8 #[] #[{ accessFlags := 1, nameIndex := 5, descriptorIndex := 6, attributes := #[] }] 33 0 #[] #[])
  fields := #[]
  methods := #[k0m0]
  instanceTypes := #[]
  staticTypes := #[]
  resolved := Array.replicate 124 none
  statics := none }

def pool1 : Array CpInfo := pool [(2, .class_ 4), (1, u "java/lang/Object"), (0, u "<init>"), (0, u "()V"), (0, .integer 65535), (0, .long 68719476735), (1, .class_ 11), (0, u "com/example/verdeel/verdeel/model/VerdeelId"), (0, .methodref 10 13), (0, .nameAndType 5 14), (0, u "(IIJ)V"), (0, .methodref 10 16), (0, .nameAndType 17 18), (0, u "toLong"), (0, u "()J"), (0, .long 4611686018427387903), (1, .class_ 22), (0, u "com/example/verdeel/verdeel/model/VerdeelIdToLongPinLaw"), (0, .long 70368744177664), (1, .long 68719476736), (1, .long 1024), (1, u "TWO_36"), (0, u "J"), (1, u "TWO_46"), (2, u "law"), (0, u "(IIJ)Z")] 3

def k1m0 : Method := { name := "<init>", desc := "()V", sig := { parameters := [], returnType := none }, accessFlags := 1, code := none }
def k1c1 : Code := { maxStack := 6, maxLocals := 13, code := code, exceptionTable := #[], attributes := #[] }
def k1m1 : Method := { name := "law", desc := "(IIJ)Z", sig := { parameters := [.int, .int, .long], returnType := some .boolean }, accessFlags := 9, code := some k1c1 }
/-- com/example/verdeel/verdeel/model/VerdeelIdToLongPinLaw -/
def k1 : Class := { plain "com/example/verdeel/verdeel/model/VerdeelIdToLongPinLaw" (some 0) with
  accessFlags := 49
  interfaces := #[]
  cf := some (fileOf pool1 21 #[] #[{ accessFlags := 1, nameIndex := 5, descriptorIndex := 6, attributes := #[] }, { accessFlags := 9, nameIndex := 35, descriptorIndex := 36, attributes := #[] }] 49 2 #[] #[{ accessFlags := 26, nameIndex := 29, descriptorIndex := 30, attributes := #[] }, { accessFlags := 26, nameIndex := 32, descriptorIndex := 30, attributes := #[] }])
  fields := #[{ name := "TWO_36", type := .long, accessFlags := 26, slot := 0, constantValue := 0 }, { name := "TWO_46", type := .long, accessFlags := 26, slot := 1, constantValue := 0 }]
  methods := #[k1m0, k1m1]
  instanceTypes := #[]
  staticTypes := #[.long, .long]
  resolved := Array.replicate 40 none
  statics := none }

def pool2 : Array CpInfo := pool [(1, .methodref 2 3), (0, .class_ 4), (0, .nameAndType 5 6), (0, u "java/lang/Object"), (0, u "<init>"), (0, u "()V"), (0, .class_ 8), (0, u "java/lang/Record")] 13

def k2c0 : Code := { maxStack := 1, maxLocals := 1, code := jdk_30_method_1_code, exceptionTable := #[], attributes := #[] }
def k2m0 : Method := { name := "<init>", desc := "()V", sig := { parameters := [], returnType := none }, accessFlags := 4, code := some k2c0 }
/-- java/lang/Record -/
def k2 : Class := { plain "java/lang/Record" (some 0) with
  accessFlags := 1057
  interfaces := #[]
  cf := some (fileOf pool2 7 #[] #[{ accessFlags := 4, nameIndex := 5, descriptorIndex := 6, attributes := #[] }] 1057 2 #[] #[])
  fields := #[]
  methods := #[k2m0]
  instanceTypes := #[]
  staticTypes := #[]
  resolved := Array.replicate 22 none
  statics := none }

def pool3 : Array CpInfo := pool [(1, .methodref 2 3), (0, .class_ 4), (0, .nameAndType 5 6), (0, u "java/lang/Record"), (0, u "<init>"), (0, u "()V"), (0, .methodref 8 9), (0, .class_ 10), (0, .nameAndType 11 12), (0, u "com/example/verdeel/verdeel/model/VerdeelId"), (0, u "checkShard"), (0, u "(I)V"), (9, .long 68719476735), (4, .fieldref 8 28), (0, .nameAndType 29 30), (0, u "shard"), (0, u "I"), (0, .fieldref 8 32), (0, .nameAndType 33 30), (0, u "type"), (0, .fieldref 8 35), (0, .nameAndType 36 37), (0, u "local"), (0, u "J"), (0, .integer 65535), (6, u "(IIJ)V"), (14, u "toLong"), (0, u "()J"), (13, u "MAX_SHARD"), (1, u "MAX_TYPE"), (1, u "MAX_LOCAL"), (0, u "MAX_ID"), (0, u "SHARD_SHIFT"), (1, u "TYPE_SHIFT")] 45

def k3c0 : Code := { maxStack := 4, maxLocals := 5, code := prog_28_method_1_code, exceptionTable := #[], attributes := #[] }
def k3m0 : Method := { name := "<init>", desc := "(IIJ)V", sig := { parameters := [.int, .int, .long], returnType := none }, accessFlags := 1, code := some k3c0 }
def k3c1 : Code := { maxStack := 3, maxLocals := 1, code := prog_28_method_2_code, exceptionTable := #[], attributes := #[] }
def k3m1 : Method := { name := "checkShard", desc := "(I)V", sig := { parameters := [.int], returnType := none }, accessFlags := 8, code := some k3c1 }
def k3c2 : Code := { maxStack := 5, maxLocals := 1, code := prog_28_method_5_code, exceptionTable := #[], attributes := #[] }
def k3m2 : Method := { name := "toLong", desc := "()J", sig := { parameters := [], returnType := some .long }, accessFlags := 1, code := some k3c2 }
/-- com/example/verdeel/verdeel/model/VerdeelId -/
def k3 : Class := { plain "com/example/verdeel/verdeel/model/VerdeelId" (some 2) with
  accessFlags := 49
  interfaces := #[]
  cf := some (fileOf pool3 8 #[] #[{ accessFlags := 1, nameIndex := 5, descriptorIndex := 45, attributes := #[] }, { accessFlags := 8, nameIndex := 11, descriptorIndex := 12, attributes := #[] }, { accessFlags := 1, nameIndex := 60, descriptorIndex := 61, attributes := #[] }] 49 2 #[] #[{ accessFlags := 18, nameIndex := 29, descriptorIndex := 30, attributes := #[] }, { accessFlags := 18, nameIndex := 33, descriptorIndex := 30, attributes := #[] }, { accessFlags := 18, nameIndex := 36, descriptorIndex := 37, attributes := #[] }, { accessFlags := 25, nameIndex := 75, descriptorIndex := 30, attributes := #[] }, { accessFlags := 25, nameIndex := 77, descriptorIndex := 30, attributes := #[] }, { accessFlags := 25, nameIndex := 79, descriptorIndex := 37, attributes := #[] }, { accessFlags := 25, nameIndex := 80, descriptorIndex := 37, attributes := #[] }, { accessFlags := 26, nameIndex := 81, descriptorIndex := 30, attributes := #[] }, { accessFlags := 26, nameIndex := 83, descriptorIndex := 30, attributes := #[] }])
  fields := #[{ name := "shard", type := .int, accessFlags := 18, slot := 0, constantValue := 0 }, { name := "type", type := .int, accessFlags := 18, slot := 1, constantValue := 0 }, { name := "local", type := .long, accessFlags := 18, slot := 2, constantValue := 0 }, { name := "MAX_SHARD", type := .int, accessFlags := 25, slot := 0, constantValue := 0 }, { name := "MAX_TYPE", type := .int, accessFlags := 25, slot := 1, constantValue := 0 }, { name := "MAX_LOCAL", type := .long, accessFlags := 25, slot := 2, constantValue := 0 }, { name := "MAX_ID", type := .long, accessFlags := 25, slot := 3, constantValue := 0 }, { name := "SHARD_SHIFT", type := .int, accessFlags := 26, slot := 4, constantValue := 0 }, { name := "TYPE_SHIFT", type := .int, accessFlags := 26, slot := 5, constantValue := 0 }]
  methods := #[k3m0, k3m1, k3m2]
  instanceTypes := #[.int, .int, .long]
  staticTypes := #[.int, .int, .long, .long, .int, .int]
  resolved := Array.replicate 129 none
  statics := none }

def pool4 : Array CpInfo := pool [(1, u "java/lang/Cloneable"), (0, .class_ 1), (0, u "java/lang/Object"), (0, .class_ 3)] 3

/-- java/lang/Cloneable -/
def k4 : Class := { plain "java/lang/Cloneable" (some 0) with
  accessFlags := 1537
  interfaces := #[]
  cf := some (fileOf pool4 2 #[] #[] 1537 4 #[] #[])
  fields := #[]
  methods := #[]
  instanceTypes := #[]
  staticTypes := #[]
  resolved := Array.replicate 8 none
  statics := none }

def pool5 : Array CpInfo := pool [(1, u "java/io/Serializable"), (0, .class_ 1), (0, u "java/lang/Object"), (0, .class_ 3)] 3

/-- java/io/Serializable -/
def k5 : Class := { plain "java/io/Serializable" (some 0) with
  accessFlags := 1537
  interfaces := #[]
  cf := some (fileOf pool5 2 #[] #[] 1537 4 #[] #[])
  fields := #[]
  methods := #[]
  instanceTypes := #[]
  staticTypes := #[]
  resolved := Array.replicate 8 none
  statics := none }

/-- the primitive byte -/
def k6 : Class := { plain "byte" none with kind := .primitive 'B', accessFlags := 0x411 }
/-- [B -/
def k7 : Class := { plain "[B" (some 0) with kind := .array 6 .byte, interfaces := #[4, 5], accessFlags := 1041 }

/-- the primitive int -/
def k8 : Class := { plain "int" none with kind := .primitive 'I', accessFlags := 0x411 }
/-- [I -/
def k9 : Class := { plain "[I" (some 0) with kind := .array 8 .int, interfaces := #[4, 5], accessFlags := 1041 }

def heap : Heap := #[]
def classes : Array Class := #[k0, k1, k2, k3, k4, k5, k6, k7, k8, k9]
def interned : List (Array UInt16 × Addr) := []
def slotsUsed : Nat := 0
def theMethod : MethodId := ⟨1, 1⟩
def args0 : Array Value := #[.int 5, .int 3, .long 9]
def aboutOver (below : List Frame) : State where
  vm := { classes := classes, interned := interned.toArray }
  heap := heap
  slotsUsed := slotsUsed
  threads := #[{ frames := .invoking theMethod args0 :: below }]
def below0 : List Frame := [.native { method := ⟨0, 0⟩, args := #[] }]
def about1 : State := aboutOver below0
def p0 : Program := .bare "" "" ""
def e0 : Env := launch0.env 0 0 0
theorem w_frames : about1.frames = Frame.invoking theMethod args0 :: below0 := rfl
set_option maxRecDepth 65536 in
theorem w_args : argsFit about1.vm theMethod args0 = true := by decide +kernel
set_option maxRecDepth 65536 in
theorem w_heap : heapFits about1 = true := by decide +kernel
set_option maxRecDepth 65536 in
theorem w_runnable : about1.curStatus? = some .runnable := by decide +kernel
set_option maxRecDepth 65536 in
theorem w_alone : about1.alone = true := by decide +kernel
set_option maxRecDepth 65536 in
theorem w_named : about1.methodNamed? x = some theMethod := by decide +kernel
set_option maxRecDepth 65536 in
theorem w_hears : about1.hears theMethod below0 = true := by decide +kernel
set_option maxRecDepth 65536 in
theorem w_ripe : about1.ripe theMethod args0 below0 = true := by decide +kernel
theorem w_running : about1.status = .running := rfl
set_option maxRecDepth 65536 in
theorem w_room : about1.hasRoom e0.platform room_1 = true :=
  launch0.hasRoom_least _ room_1 (by decide +kernel) (by decide +kernel) (by decide +kernel) (by decide +kernel) (by decide +kernel) (by decide +kernel)
theorem allAtoms_all (ts : List Jvm.Cond) (a : Array Jvm.Value) (st : Jvm.State) : (allAtoms ts).before a st = ts.all (fun c => c.before a st) := by
  induction ts with
  | nil => rfl
  | cons c t ih =>
    show (Jvm.Cond.and c (allAtoms t)).before a st = _
    rw [Jvm.Cond.before_and, ih, List.all_cons]
def words1 : List Jvm.Cond := Jvm.Cond.code x code maxLocals ret :: tables_1
/-- a 'code' word, met by the world's own term for the bytes: nothing is compared byte by byte -/
theorem code_word {y : MethodName} {bytes : ByteArray} {mx : Nat} {rt : Option FieldType} {a : Array Value} {s : State} {m : MethodId} {meth : Method} {c : Code} (h1 : s.methodNamed? y = some m) (h2 : s.vm.method? m = some meth) (h3 : meth.code = some c) (h4 : c.code = bytes)
    (h5 : (c.maxLocals == mx && c.exceptionTable.isEmpty && decide (c.maxStack ≤ mostOperands) && decide (meth.sig.returnType = rt) && !meth.locks && decide (parseMethodDescriptor y.desc = some meth.sig)) = true) : (Jvm.Cond.code y bytes mx rt).before a s = true := by
  simp only [Bool.and_eq_true, beq_iff_eq, Bool.not_eq_true', decide_eq_true_eq] at h5
  obtain ⟨⟨⟨⟨⟨g1, g2⟩, g3⟩, g4⟩, g5⟩, g6⟩ := h5
  simp [Cond.before, Cond.holds, Cond.value, h1, h2, h3, h4, g1, g2, g3, g4, g5, g6]
def isCode : Jvm.Cond → Bool
  | .code _ _ _ _ => true
  | _ => false
theorem all_split {L : List Jvm.Cond} {P : Jvm.Cond → Bool} (h1 : L.all (fun c => isCode c || P c) = true) (h2 : ∀ c ∈ L.filter isCode, P c = true) : L.all P = true := by
  refine List.all_eq_true.mpr fun c hc => ?_
  have h := List.all_eq_true.mp h1 c hc
  rcases Bool.eq_false_or_eq_true (isCode c) with hi | hi
  · exact h2 c (List.mem_filter.mpr ⟨hc, hi⟩)
  · simpa [hi] using h
set_option maxRecDepth 65536 in
theorem w_c0 : (Jvm.Cond.code x code maxLocals ret).before args0 about1 = true := code_word (m := ⟨1, 1⟩) (meth := k1m1) (c := k1c1) (by decide +kernel) rfl rfl rfl (by decide +kernel)
set_option maxRecDepth 65536 in
theorem w_c1 : (Jvm.Cond.code ({ cls := "com/example/verdeel/verdeel/model/VerdeelId", name := "<init>", desc := "(IIJ)V" } : Jvm.MethodName) prog_28_method_1_code (5 : Nat) (Option.none : Option Jvm.ClassFile.FieldType)).before args0 about1 = true := code_word (m := ⟨3, 0⟩) (meth := k3m0) (c := k3c0) (by decide +kernel) rfl rfl rfl (by decide +kernel)
set_option maxRecDepth 65536 in
theorem w_c2 : (Jvm.Cond.code ({ cls := "java/lang/Record", name := "<init>", desc := "()V" } : Jvm.MethodName) jdk_30_method_1_code (1 : Nat) (Option.none : Option Jvm.ClassFile.FieldType)).before args0 about1 = true := code_word (m := ⟨2, 0⟩) (meth := k2m0) (c := k2c0) (by decide +kernel) rfl rfl rfl (by decide +kernel)
set_option maxRecDepth 65536 in
theorem w_c3 : (Jvm.Cond.code ({ cls := "java/lang/Object", name := "<init>", desc := "()V" } : Jvm.MethodName) object_method_1_code (1 : Nat) (Option.none : Option Jvm.ClassFile.FieldType)).before args0 about1 = true := code_word (m := ⟨0, 0⟩) (meth := k0m0) (c := k0c0) (by decide +kernel) rfl rfl rfl (by decide +kernel)
set_option maxRecDepth 65536 in
theorem w_c4 : (Jvm.Cond.code ({ cls := "com/example/verdeel/verdeel/model/VerdeelId", name := "checkShard", desc := "(I)V" } : Jvm.MethodName) prog_28_method_2_code (1 : Nat) (Option.none : Option Jvm.ClassFile.FieldType)).before args0 about1 = true := code_word (m := ⟨3, 1⟩) (meth := k3m1) (c := k3c1) (by decide +kernel) rfl rfl rfl (by decide +kernel)
set_option maxRecDepth 65536 in
theorem w_c5 : (Jvm.Cond.code ({ cls := "com/example/verdeel/verdeel/model/VerdeelId", name := "toLong", desc := "()J" } : Jvm.MethodName) prog_28_method_5_code (1 : Nat) (Option.some Jvm.ClassFile.FieldType.long)).before args0 about1 = true := code_word (m := ⟨3, 2⟩) (meth := k3m2) (c := k3c2) (by decide +kernel) rfl rfl rfl (by decide +kernel)
def codes1 : List Jvm.Cond := [Jvm.Cond.code x code maxLocals ret, Jvm.Cond.code ({ cls := "com/example/verdeel/verdeel/model/VerdeelId", name := "<init>", desc := "(IIJ)V" } : Jvm.MethodName) prog_28_method_1_code (5 : Nat) (Option.none : Option Jvm.ClassFile.FieldType), Jvm.Cond.code ({ cls := "java/lang/Record", name := "<init>", desc := "()V" } : Jvm.MethodName) jdk_30_method_1_code (1 : Nat) (Option.none : Option Jvm.ClassFile.FieldType), Jvm.Cond.code ({ cls := "java/lang/Object", name := "<init>", desc := "()V" } : Jvm.MethodName) object_method_1_code (1 : Nat) (Option.none : Option Jvm.ClassFile.FieldType), Jvm.Cond.code ({ cls := "com/example/verdeel/verdeel/model/VerdeelId", name := "checkShard", desc := "(I)V" } : Jvm.MethodName) prog_28_method_2_code (1 : Nat) (Option.none : Option Jvm.ClassFile.FieldType), Jvm.Cond.code ({ cls := "com/example/verdeel/verdeel/model/VerdeelId", name := "toLong", desc := "()J" } : Jvm.MethodName) prog_28_method_5_code (1 : Nat) (Option.some Jvm.ClassFile.FieldType.long)]
set_option maxRecDepth 65536 in
theorem codes_eq : words1.filter isCode = codes1 := rfl
theorem w_codes : ∀ c ∈ words1.filter isCode, c.before args0 about1 = true := by
  rw [codes_eq]
  intro c hc
  simp only [codes1, List.mem_cons, List.not_mem_nil, or_false] at hc
  rcases hc with rfl | rfl | rfl | rfl | rfl | rfl
  · exact w_c0
  · exact w_c1
  · exact w_c2
  · exact w_c3
  · exact w_c4
  · exact w_c5
set_option maxRecDepth 65536 in
theorem w_t1 : (words1.take 24).all (fun c => isCode c || c.before args0 about1) = true := by decide +kernel
set_option maxRecDepth 65536 in
theorem w_t2 : (words1.drop 24).all (fun c => isCode c || c.before args0 about1) = true := by decide +kernel
theorem w_tables : (allAtoms (Jvm.Cond.code x code maxLocals ret :: tables_1)).before args0 about1 = true := by
  rw [allAtoms_all]
  show words1.all (fun c => c.before args0 about1) = true
  refine all_split ?_ w_codes
  rw [← List.take_append_drop 24 words1, List.all_append, w_t1, w_t2]
  rfl
set_option maxRecDepth 65536 in
theorem w_case : (Jvm.Cond.and given_1 narrow_1).before args0 about1 = true := by decide +kernel
theorem w_applies : (headSpec (Jvm.Cond.code x code maxLocals ret :: tables_1) room_1).applies x e0.platform about1 = true :=
  (Spec.applies_iff w_frames).mpr ⟨w_running, w_runnable, w_alone, w_named, w_hears, w_ripe, w_room, w_tables⟩
theorem atStart : AtStart classFile x code maxLocals ret World_1 tables_1 room_1 Calls_1 rest_1 Pre_1 launch0 p0 e0 about1 theMethod args0 below0 :=
  ⟨lists_1, trivial, launch0.admits_env _ _ _, launch0.least_env, fairChoices_fair.cas, fairChoices_fair.clock, w_frames, w_args, w_heap, w_applies, trivial, trivial, w_case⟩
end start1
theorem witness_1 : WitnessClaimed_1 := ⟨start1.p0, start1.e0, start1.about1, start1.theMethod, start1.args0, start1.below0, start1.atStart⟩
end Jvm.Pilot.@@N@@
