import JvmDerived
import JvmDerived.Pilot.@@N@@Statement
import JvmDerived.Pilot.@@N@@Code
set_option linter.unusedVariables false
set_option linter.unusedSimpArgs false

namespace Jvm.RoadKit
open Sem ClassFile Op Lib Jvm.Stand Jvm.Free Jvm.LawKit
section New
variable {p : Program} {l : Launch} {e : Env} {R : Room} {s : State} {m : MethodId} {args : Array Value} {below : List Frame} {meth : Method} {c : Code} {T : State} {locs : List Loc} {cells slots : Nat}
theorem retI (X : Stand p l e R s m args below meth c T locs cells slots) (hx : p.tables.exec = Jvm.exec) {pc : Nat} {Ls : Array Slot} {z : Int32} {rest : List Value} (hret : meth.sig.returnType = some .int) (hd : decode c.code pc = .ok (.ireturn, 1)) {fs : List Frame}
    (hl : ∀ (f : JFrame) (acts : List Action), f.method = m → f.locked = none → f.entered = [] → (doReturn e (T.setTop f) acts (some (.int z))).1 = T.setFrames fs) : Steps p.tables e below (T.setTop (mkF m pc Ls (.int z :: rest))) (T.setFrames fs) := by
  have hm' : T.vm.method? m = some meth := X.method'
  have hn : narrow .int (.int z) = .int z := rfl
  show Steps p.tables e below (T.setTop { method := m, pc := pc, locals := Ls, stack := _ :: rest, locked := none }) _
  jvm_step X.here [X.here.top, hx, hd, hm', hret, hn]
  first | (intro acts; rw [hl _ acts rfl rfl rfl]) | rw [hl _ _ rfl rfl rfl]
  exact Steps.refl _
end New
end Jvm.RoadKit

namespace Jvm.Pilot.@@N@@
open Jvm Jvm.ClassFile Sem Op Lib Jvm.Free Jvm.Stand Jvm.LawKit Jvm.RoadKit Bundle Jvm.Pilot.@@N@@.Jvm.D

def own_has (w : Int32) : Int32 := if (0 : Int32) < w then (1 : Int32) else (0 : Int32)
def own_sub (a b c : Int32) : Int32 := if (a - b) < (0 : Int32) then ((a - b) + c) else (a - b)
def own_inc (a b : Int32) : Int32 := if (a + (1 : Int32)) < b then (a + (1 : Int32)) else (0 : Int32)
/-- an array of seventeen references -/
def own_Objs (Z : State) (h : Heap) (b : Addr) : Prop := ∃ c : Cell, Arr Z h b c (.object "java/lang/Object") ∧ c.slots.size = 17 ∧ Ovr Z c.cls "java/lang/Object"
theorem own_Objs.fresh {Z : State} {h : Heap} {b : Addr} {k : ClassId} (A : Arr Z h b (newA k (.object "java/lang/Object") (17 : Int32)) (.object "java/lang/Object")) (O : Ovr Z k "java/lang/Object") : own_Objs Z h b :=
  ⟨_, A, (sz_new _ _ _).trans (by decide), O⟩
theorem own_Objs.lt {Z : State} {h : Heap} {b : Addr} (F : own_Objs Z h b) : b < h.size := by
  obtain ⟨c, A, r⟩ := F; exact A.lt
theorem own_Objs.other {Z : State} {h h' : Heap} {a b : Addr} {sl : Nat} {v : Value} (F : own_Objs Z h b) (W : Wr h h' a sl v) (q : b ≠ a) : own_Objs Z h' b := by
  obtain ⟨c, A, r⟩ := F; exact ⟨c, A.other W q, r⟩
theorem own_Objs.ext {Z : State} {h h' : Heap} {b : Addr} (F : own_Objs Z h b) (E : Ext h h') : own_Objs Z h' b := by
  obtain ⟨c, A, r⟩ := F; exact ⟨c, A.ext E, r⟩
theorem own_Objs.keep {Z : State} {h h' : Heap} {b : Addr} {ws : List Addr} (F : own_Objs Z h b) (K : Keep h h' ws) (q : b ∉ ws) : own_Objs Z h' b := by
  obtain ⟨c, A, r⟩ := F; exact ⟨c, ⟨K.2.1 b c A.1 q, A.2⟩, r⟩
theorem own_Objs.set {Z : State} {h h' : Heap} {b : Addr} {c : Cell} {j : Nat} {x : Value} (A : Arr Z h b c (.object "java/lang/Object")) (s : c.slots.size = 17) (O : Ovr Z c.cls "java/lang/Object") (W : Wr h h' b j x) : own_Objs Z h' b :=
  ⟨c.setSlot j x, A.same W, by show (c.slots.setIfInBounds j x).size = 17; rw [Array.size_setIfInBounds]; exact s, O⟩
/-- the queue, its deque and the deque's array: k writes in it, the count of the flushed -/
def own_St (Z : State) (h : Heap) (q d b : Addr) (k : Int32) (u : Value) : Prop :=
  Exa Z h q "com/example/grelo/grelo/WriteQueue" ∧ Fld Z h q "com/example/grelo/grelo/WriteQueue" "writes" "Ljava/util/ArrayDeque;" (.ref d) ∧ Fld Z h q "com/example/grelo/grelo/WriteQueue" "flushedCount" "I" u ∧
  Exa Z h d "java/util/ArrayDeque" ∧ Fld Z h d "java/util/ArrayDeque" "head" "I" (.int (0 : Int32)) ∧ Fld Z h d "java/util/ArrayDeque" "tail" "I" (.int k) ∧ Fld Z h d "java/util/ArrayDeque" "elements" "[Ljava/lang/Object;" (.ref b) ∧ own_Objs Z h b
theorem own_more {p : Program} {l : Launch} {e : Env} {R : Room} {s : State} {m : MethodId} {args : Array Value} {below : List Frame} {meth : Method} {c : Code} {T : State} {locs : List Loc} {c1 n1 c2 n2 : Nat} (X : Stand p l e R s m args below meth c T locs c1 n1) (hc : c1 ≤ c2) (hn : n1 ≤ n2) : Stand p l e R s m args below meth c T locs c2 n2 :=
  { X with same := X.same.mono hc hn }
theorem own_nat {k : Int32} (h0 : 0 ≤ k.toInt) : (k.toNatClampNeg : Int) = k.toInt := by
  show ((k.toInt.toNat : Nat) : Int) = k.toInt
  omega
theorem own_in {k : Int32} {c : Cell} (hs : c.slots.size = 17) (h0 : 0 ≤ k.toInt) (h1 : k.toInt < 17) : ¬ (k < 0 ∨ c.slots.size ≤ k.toNatClampNeg) := by
  have h := own_nat h0
  have e0 : (0 : Int32).toInt = 0 := rfl
  rw [Int32.lt_iff_toInt_lt, e0, hs]
  omega
theorem own_incne {k : Int32} (h0 : 0 ≤ k.toInt) (h1 : k.toInt ≤ 10) : ¬ ((0 : Int32) = own_inc k (17 : Int32)) := by
  have e0 : (0 : Int32).toInt = 0 := rfl
  have e1 : (1 : Int32).toInt = 1 := rfl
  have e17 : (17 : Int32).toInt = 17 := rfl
  have c := c_iadd k (1 : Int32)
  have r := rng32 (k + (1 : Int32))
  rw [e1] at c
  have q : (k + (1 : Int32)) < (17 : Int32) := by rw [Int32.lt_iff_toInt_lt, e17]; omega
  unfold own_inc
  rw [if_pos q]
  intro z
  have z' := congrArg Int32.toInt z
  rw [e0] at z'
  omega
theorem own_01 {x m b : Int32} (h : b = (if (x &&& m) = (0 : Int32) then (0 : Int32) else (1 : Int32))) : b = 0 ∨ b = 1 := by
  rw [h]; split
  · exact Or.inl rfl
  · exact Or.inr rfl
theorem own_n {x n : Int32} (h : n = ((x &&& (2147483647 : Int32)) % (3 : Int32))) : n = 0 ∨ n = 1 ∨ n = 2 := by
  have h1 := c_mask x (2147483647 : Int32) 31 (by decide) (by decide)
  have h2 := (c_irem (x &&& (2147483647 : Int32)) (3 : Int32) 3 rfl).1 (by omega)
  rw [← h] at h2
  have hh : n.toInt = 0 ∨ n.toInt = 1 ∨ n.toInt = 2 := by omega
  rcases hh with q | q | q
  · exact Or.inl (Int32.toInt_inj.mp q)
  · exact Or.inr (Or.inl (Int32.toInt_inj.mp q))
  · exact Or.inr (Or.inr (Int32.toInt_inj.mp q))
theorem own_plain {n m f g : Int32} (gn : n = 0 ∨ n = 1 ∨ n = 2) (gm : m = 0 ∨ m = 1) (gf : f = 0 ∨ f = 1) (gg : g = 0 ∨ g = 1) :
    ∃ k1 k2 fc1 k3 fc2 : Int32, (k1 = if n < (1 : Int32) then (0 : Int32) else own_inc (0 : Int32) (17 : Int32)) ∧ (k2 = if n < (2 : Int32) then k1 else own_inc k1 (17 : Int32)) ∧
      (fc1 = if f = (0 : Int32) then (0 : Int32) else own_sub k2 (0 : Int32) (17 : Int32)) ∧ (k3 = if m = (0 : Int32) then k2 else own_inc k2 (17 : Int32)) ∧ (fc2 = if g = (0 : Int32) then fc1 else own_sub k3 (0 : Int32) (17 : Int32)) ∧
      (0 ≤ (0 : Int32).toInt ∧ (0 : Int32).toInt ≤ 10) ∧ (0 ≤ k1.toInt ∧ k1.toInt ≤ 10) ∧ (0 ≤ k2.toInt ∧ k2.toInt ≤ 10) ∧
      ∀ e2 e3 : Int32, (e2 = (if f = (0 : Int32) then (0 : Int32) else (if (0 : Int32) < n then (1 : Int32) else (0 : Int32)))) → (e3 = (if g = (0 : Int32) then e2 else (if (0 : Int32) < n then (1 : Int32) else (if m = (0 : Int32) then (0 : Int32) else (1 : Int32))))) → own_has fc1 = e2 ∧ own_has fc2 = e3 := by
  refine ⟨_, _, _, _, _, rfl, rfl, rfl, rfl, rfl, ?_, ?_, ?_, ?_⟩
  · decide
  · rcases gn with rfl | rfl | rfl <;> decide
  · rcases gn with rfl | rfl | rfl <;> decide
  · intro e2 e3 h2 h3
    subst h2
    subst h3
    rcases gn with rfl | rfl | rfl <;> rcases gm with rfl | rfl <;> rcases gf with rfl | rfl <;> rcases gg with rfl | rfl <;> decide

theorem d4_0 : decode jdk_22_method_1_code 0 = .ok (.aload_n 0, 1) := by decide +kernel
theorem d4_1 : decode jdk_22_method_1_code 1 = .ok (.invokespecial 1, 3) := by decide +kernel
theorem d4_4 : decode jdk_22_method_1_code 4 = .ok (.return_, 1) := by decide +kernel
theorem pn_1 : plainName "java/util/AbstractCollection" = true := by first | (simp [plainName, overriddenIn]; done) | decide +kernel
theorem ef_4 (m : MethodId) (x0 : Addr) : entryFrame m #[(.ref x0)] 1 = mkF m 0 #[.val (.ref x0)] [] := by first | (simp [entryFrame, mkF, argsToLocals, Value.category]; done) | rfl
def Q4 (Z : State) (a1 : Addr)  (h0 : Heap) (n0 : Nat) (v : Option Value) (h : Heap) (L : List Loc) : Prop := v = none ∧ Fr n0 L ∧ h = h0
set_option maxRecDepth 65536 in
set_option maxHeartbeats 40000000 in
theorem rm4 (l : Launch) (Z : State) (a0 : Array Value) (hw : ∀ d ∈ tables_1, d.before a0 Z = true) (ws : List Jvm.Cond) (a1 : Addr)  (h0 : Heap) (n0 : Nat) (Z0 : n0 ≤ h0.size)  :
    MetFree l (⟨"java/util/AbstractCollection", "<init>", "()V"⟩ : MethodName) (head1 (Jvm.Cond.code (⟨"java/util/AbstractCollection", "<init>", "()V"⟩ : MethodName) jdk_22_method_1_code 1 none :: ws) ({ frames := 1, cells := 0, slots := 0, locals := 12 } : Room)) (fun a U => a = #[(.ref a1)] ∧ Z.Warmed39 U.vm ∧ U.heap = h0) (fun _ _ _ _ _ => True) (fun _ U o U' => ∃ v L, o = .returned v ∧ Q4 Z a1  h0 n0 v U'.heap L ∧ FrameEnd U o U' L ({ frames := 1, cells := 0, slots := 0, locals := 12 } : Room).cells ({ frames := 1, cells := 0, slots := 0, locals := 12 } : Room).slots) := by
  refine MetFree.of_bodySF (plainFor_of_name pn_1) hisR ?_
  intro p e s m args below meth c s₁ Bd hml0 hP hK
  obtain ⟨rfl, hZ, hh⟩ := hP
  have hx := Bd.exec
  have hby := Bd.bytes
  have hml : c.maxLocals = 1 := hml0
  have hown : s.vm.findClass "java/util/AbstractCollection" = some m.cls := findClass_of_methodNamed Bd.named
  have hnm := (name_of_methodNamed Bd.named Bd.method).1
  have X0 : Stand p l e ({ frames := 1, cells := 0, slots := 0, locals := 12 } : Room) s m #[(.ref a1)] below meth c s₁ [] 0 0 := Stand.of_body Bd
  have e0 : s₁.heap = h0 := by rw [← hh, Bd.state]; rfl
  have N0 := Fr.nil n0
  have pre0 : ∀ t, Steps p.tables e below (s₁.setTop (mkF m 0 #[.val (.ref a1)] [])) t → Steps p.tables e below (s₁.setTop (entryFrame m #[(.ref a1)] 1)) t := fun t k => castTop (ef_4 m a1) k
  obtain ⟨T1, X1, e1, st1⟩ := initO X0 hx hZ hown (hw _ (List.mem_of_getElem? (i := 22) rfl)) (hw _ (List.mem_of_getElem? (i := 8) rfl)) (hw _ (List.mem_of_getElem? (i := 9) rfl)) e0 (g := (mkF m 1 #[.val (.ref a1)] [(.ref a1)])) rfl (by rw [hml]; rfl) rfl (hb hby d4_1) (by decide) (W := 0) (by show 2 * 0 + _ ≤ _; exact Nat.le_of_eq rfl) (by decide)
  obtain ⟨fs, hr, hrun, hended, hW, hsame⟩ := X1.leave (v := none) (fun _ => rfl)
  refine ⟨_, _, pre0 _ ?_, hrun, hended, _, _, rfl, ?_, ⟨_, rfl⟩, hW, hsame.mono (by decide) (by decide)⟩
  · show Steps p.tables e below (s₁.setTop (mkF m 0 #[.val (.ref a1)] [])) _
    refine XS.aloadN X0.here hx rfl (hb hby d4_0) rfl rfl ?_
    show Steps p.tables e below (s₁.setTop (mkF m 1 #[.val (.ref a1)] [(.ref a1)])) _
    refine st1 _ ?_
    show Steps p.tables e below (T1.setTop (mkF m 4 #[.val (.ref a1)] [])) _
    exact X1.returnOut hx Bd.returns (hb hby d4_4) hr
  · show Q4 Z a1  h0 n0 _ T1.heap _
    rw [e1]
    exact ⟨rfl, N0, rfl⟩

theorem d3_0 : decode jdk_21_method_3_code 0 = .ok (.aload_n 0, 1) := by decide +kernel
theorem pd_0 : parseMethodDescriptor "()V" = some ⟨[], none⟩ := by decide +kernel
theorem d3_1 : decode jdk_21_method_3_code 1 = .ok (.invokespecial 42, 3) := by decide +kernel
theorem d3_4 : decode jdk_21_method_3_code 4 = .ok (.aload_n 0, 1) := by decide +kernel
theorem d3_5 : decode jdk_21_method_3_code 5 = .ok (.bipush 17, 2) := by decide +kernel
theorem d3_7 : decode jdk_21_method_3_code 7 = .ok (.anewarray 47, 3) := by decide +kernel
theorem d3_10 : decode jdk_21_method_3_code 10 = .ok (.putfield 3, 3) := by decide +kernel
theorem d3_13 : decode jdk_21_method_3_code 13 = .ok (.return_, 1) := by decide +kernel
theorem pn_2 : plainName "java/util/ArrayDeque" = true := by first | (simp [plainName, overriddenIn]; done) | decide +kernel
theorem ef_3 (m : MethodId) (x0 : Addr) : entryFrame m #[(.ref x0)] 1 = mkF m 0 #[.val (.ref x0)] [] := by first | (simp [entryFrame, mkF, argsToLocals, Value.category]; done) | rfl
def Q3 (Z : State) (a1 : Addr) (u0 : Value) (u1 : Value) (u2 : Value) (h0 : Heap) (n0 : Nat) (v : Option Value) (h : Heap) (L : List Loc) : Prop := v = none ∧ Fr n0 L ∧ Keep h0 h [a1] ∧ Exa Z h a1 "java/util/ArrayDeque" ∧ Fld Z h a1 "java/util/ArrayDeque" "head" "I" u1 ∧ Fld Z h a1 "java/util/ArrayDeque" "tail" "I" u2 ∧ ∃ b : Addr, n0 ≤ b ∧ h0.size ≤ b ∧ Fld Z h a1 "java/util/ArrayDeque" "elements" "[Ljava/lang/Object;" (.ref b) ∧ own_Objs Z h b
set_option maxRecDepth 65536 in
set_option maxHeartbeats 40000000 in
theorem rm3 (l : Launch) (Z : State) (a0 : Array Value) (hw : ∀ d ∈ tables_1, d.before a0 Z = true) (ws : List Jvm.Cond) (a1 : Addr) (u0 : Value) (u1 : Value) (u2 : Value) (h0 : Heap) (n0 : Nat) (Z0 : n0 ≤ h0.size) (g_a1 : n0 ≤ a1) (E_a1 : Exa Z h0 a1 "java/util/ArrayDeque") (F_el : Fld Z h0 a1 "java/util/ArrayDeque" "elements" "[Ljava/lang/Object;" u0) (F_hd : Fld Z h0 a1 "java/util/ArrayDeque" "head" "I" u1) (F_tl : Fld Z h0 a1 "java/util/ArrayDeque" "tail" "I" u2) :
    MetFree l (⟨"java/util/ArrayDeque", "<init>", "()V"⟩ : MethodName) (head1 (Jvm.Cond.code (⟨"java/util/ArrayDeque", "<init>", "()V"⟩ : MethodName) jdk_21_method_3_code 1 none :: ws) ({ frames := 2, cells := 1, slots := 17, locals := 24 } : Room)) (fun a U => a = #[(.ref a1)] ∧ Z.Warmed39 U.vm ∧ U.heap = h0) (fun _ _ _ _ _ => True) (fun _ U o U' => ∃ v L, o = .returned v ∧ Q3 Z a1 u0 u1 u2 h0 n0 v U'.heap L ∧ FrameEnd U o U' L ({ frames := 2, cells := 1, slots := 17, locals := 24 } : Room).cells ({ frames := 2, cells := 1, slots := 17, locals := 24 } : Room).slots) := by
  refine MetFree.of_bodySF (plainFor_of_name pn_2) hisR ?_
  intro p e s m args below meth c s₁ Bd hml0 hP hK
  obtain ⟨rfl, hZ, hh⟩ := hP
  have hx := Bd.exec
  have hby := Bd.bytes
  have hml : c.maxLocals = 1 := hml0
  have hown : s.vm.findClass "java/util/ArrayDeque" = some m.cls := findClass_of_methodNamed Bd.named
  have hnm := (name_of_methodNamed Bd.named Bd.method).1
  have X0 : Stand p l e ({ frames := 2, cells := 1, slots := 17, locals := 24 } : Room) s m #[(.ref a1)] below meth c s₁ [] 0 0 := Stand.of_body Bd
  have e0 : s₁.heap = h0 := by rw [← hh, Bd.state]; rfl
  have N0 := Fr.nil n0
  have pre0 : ∀ t, Steps p.tables e below (s₁.setTop (mkF m 0 #[.val (.ref a1)] [])) t → Steps p.tables e below (s₁.setTop (entryFrame m #[(.ref a1)] 1)) t := fun t k => castTop (ef_3 m a1) k
  obtain ⟨_, _, ⟨T1, L1, k1, n1⟩, -, X1, ⟨Lc1, hQ1, l1, y1, z1⟩, st1⟩ := X0.specialBack hx (y := (⟨"java/util/AbstractCollection", "<init>", "()V"⟩ : MethodName)) rfl hown (mvT hZ (hw _ (List.mem_of_getElem? (i := 16) rfl))) (mvT hZ (hw _ (List.mem_of_getElem? (i := 17) rfl))) (mvT hZ (hw _ (List.mem_of_getElem? (i := 21) rfl))) (by decide) (backOf (W := 0) (rm4 l Z a0 hw [] a1 h0 n0 Z0) hZ (hw _ (List.mem_of_getElem? (i := 21) rfl)) (hw _ (List.mem_of_getElem? (i := 20) rfl)) (by decide) (by decide)) (g := (mkF m 1 #[.val (.ref a1)] [(.ref a1)])) rfl (by rw [hml]; rfl) (Steps.refl _) (a := a1) (argsL := []) (rest := []) (lenOf pd_0 rfl) rfl (by show 2 * 0 + _ ≤ _; exact Nat.le_of_eq rfl) (hb hby d3_1) (fun _ _ => ⟨rfl, e0, (by decide : 0 + 0 ≤ _), (by decide : 0 + 0 ≤ _)⟩)
  dsimp only [Pt.U, Pt.locs, Pt.cells, Pt.slots] at X1 l1 y1 z1 st1 hQ1
  subst l1 y1 z1
  obtain ⟨rfl, N1q, e1⟩ := hQ1
  have N1 := Fr.app N0 N1q
  obtain ⟨T2, h2, k2, X2, e2, E2, A2, O2, st2⟩ := newR X1 hx hZ hown (hw _ (List.mem_of_getElem? (i := 23) rfl)) (hw _ (List.mem_of_getElem? (i := 24) rfl)) e1 (g := (mkF m 7 #[.val (.ref a1)] [(.int (17 : Int32)), (.ref a1)])) rfl (hb hby d3_7) rfl (by decide) (cap := 17) (by decide) (by decide) (by decide) (by decide)
  obtain ⟨b2, g2⟩ : ∃ z, z = h0.size := ⟨_, rfl⟩
  rw [← g2] at A2 st2
  have g_b2 : n0 ≤ b2 := Nat.le_trans Z0 (Nat.le_of_eq g2.symm)
  have sz_b2 : h0.size ≤ b2 := Nat.le_trans (Keep.refl h0 [a1]).1 (Nat.le_of_eq g2.symm)
  have ne_a1_b2 : a1 ≠ b2 := Nat.ne_of_lt (Nat.lt_of_lt_of_le E_a1.lt (Nat.le_of_eq g2.symm))
  have E_a1_h2 := (E_a1.ext E2)
  have F_el_h2 := (F_el.ext E2)
  have F_h2 := (F_hd.ext E2)
  have F_tl_h2 := (F_tl.ext E2)
  have Z2 := (Nat.le_trans Z0 E2.1)
  have KK2 := (Keep.refl h0 [a1]).ext E2
  have O_b := own_Objs.fresh A2 O2
  obtain ⟨T3, h3, X3, e3, W3, st3⟩ := putF X2 hx hZ hown (host := "") (Or.inl (hw _ (List.mem_of_getElem? (i := 25) rfl))) Via.refl e2 F_el_h2 E_a1_h2 (Or.inl (hw _ (List.mem_of_getElem? (i := 26) rfl))) (hw _ (List.mem_of_getElem? (i := 11) rfl)) (ty := (.array (.object "java/lang/Object"))) (by decide) rfl rfl (g := (mkF m 10 #[.val (.ref a1)] [(.ref b2), (.ref a1)])) rfl rfl (hb hby d3_10)
  have Fw3 := F_el_h2.same W3
  have E_a1_h3 := (E_a1_h2.wr W3)
  have F_h3 := (F_h2.other W3 (Or.inr (slot_ne (Or.inl (hw _ (List.mem_of_getElem? (i := 51) rfl))) (Or.inl (hw _ (List.mem_of_getElem? (i := 26) rfl))) (by decide) (t := .int) (t' := (.array (.object "java/lang/Object"))) (by decide) (by decide))))
  have F_tl_h3 := (F_tl_h2.other W3 (Or.inr (slot_ne (Or.inl (hw _ (List.mem_of_getElem? (i := 49) rfl))) (Or.inl (hw _ (List.mem_of_getElem? (i := 26) rfl))) (by decide) (t := .int) (t' := (.array (.object "java/lang/Object"))) (by decide) (by decide))))
  have O_b_h3 := (O_b.other W3 (Ne.symm ne_a1_b2))
  have Z3 := (Nat.le_trans Z2 (Keep.of_wr W3).1)
  have KK3 := KK2.wr W3 (Or.inl (by simp))
  have N3 := Fr.snoc X3 N1 g_a1
  obtain ⟨fs, hr, hrun, hended, hW, hsame⟩ := X3.leave (v := none) (fun _ => rfl)
  refine ⟨_, _, pre0 _ ?_, hrun, hended, _, _, rfl, ?_, ⟨_, rfl⟩, hW, hsame.mono (by decide) (by decide)⟩
  · show Steps p.tables e below (s₁.setTop (mkF m 0 #[.val (.ref a1)] [])) _
    refine XS.aloadN X0.here hx rfl (hb hby d3_0) rfl rfl ?_
    show Steps p.tables e below (s₁.setTop (mkF m 1 #[.val (.ref a1)] [(.ref a1)])) _
    refine st1.trans ?_
    show Steps p.tables e below (T1.setTop (mkF m 4 #[.val (.ref a1)] [])) _
    refine XS.aloadN X1.here hx rfl (hb hby d3_4) rfl rfl ?_
    show Steps p.tables e below (T1.setTop (mkF m 5 #[.val (.ref a1)] [(.ref a1)])) _
    refine XS.bipush X1.here hx rfl (hb hby d3_5) ?_
    show Steps p.tables e below (T1.setTop (mkF m 7 #[.val (.ref a1)] [(.int (17 : Int32)), (.ref a1)])) _
    refine st2 _ ?_
    show Steps p.tables e below (T2.setTop (mkF m 10 #[.val (.ref a1)] [(.ref b2), (.ref a1)])) _
    refine st3 _ ?_
    show Steps p.tables e below (T3.setTop (mkF m 13 #[.val (.ref a1)] [])) _
    exact X3.returnOut hx Bd.returns (hb hby d3_13) hr
  · show Q3 Z a1 u0 u1 u2 h0 n0 _ T3.heap _
    rw [e3]
    exact ⟨rfl, N3, KK3, E_a1_h3, F_h3, F_tl_h3, b2, g_b2, sz_b2, Fw3, O_b_h3⟩

theorem d1_0 : decode prog_27_method_1_code 0 = .ok (.aload_n 0, 1) := by decide +kernel
theorem d1_1 : decode prog_27_method_1_code 1 = .ok (.invokespecial 1, 3) := by decide +kernel
theorem d1_4 : decode prog_27_method_1_code 4 = .ok (.aload_n 0, 1) := by decide +kernel
theorem d1_5 : decode prog_27_method_1_code 5 = .ok (.new 7, 3) := by decide +kernel
theorem d1_8 : decode prog_27_method_1_code 8 = .ok (.dup, 1) := by decide +kernel
theorem d1_9 : decode prog_27_method_1_code 9 = .ok (.invokespecial 9, 3) := by decide +kernel
theorem d1_12 : decode prog_27_method_1_code 12 = .ok (.putfield 10, 3) := by decide +kernel
theorem d1_15 : decode prog_27_method_1_code 15 = .ok (.aload_n 0, 1) := by decide +kernel
theorem d1_16 : decode prog_27_method_1_code 16 = .ok (.new 7, 3) := by decide +kernel
theorem d1_19 : decode prog_27_method_1_code 19 = .ok (.dup, 1) := by decide +kernel
theorem d1_20 : decode prog_27_method_1_code 20 = .ok (.invokespecial 9, 3) := by decide +kernel
theorem d1_23 : decode prog_27_method_1_code 23 = .ok (.putfield 16, 3) := by decide +kernel
theorem d1_26 : decode prog_27_method_1_code 26 = .ok (.return_, 1) := by decide +kernel
theorem pn_3 : plainName "com/example/grelo/grelo/WriteQueue" = true := by first | (simp [plainName, overriddenIn]; done) | decide +kernel
theorem ef_1 (m : MethodId) (x0 : Addr) : entryFrame m #[(.ref x0)] 1 = mkF m 0 #[.val (.ref x0)] [] := by first | (simp [entryFrame, mkF, argsToLocals, Value.category]; done) | rfl
def Q1 (Z : State) (a1 : Addr) (u0 : Value) (u1 : Value) (u2 : Value) (h0 : Heap) (n0 : Nat) (v : Option Value) (h : Heap) (L : List Loc) : Prop := v = none ∧ Fr n0 L ∧ Keep h0 h [a1] ∧ ∃ d b : Addr, n0 ≤ d ∧ n0 ≤ b ∧ h0.size ≤ d ∧ h0.size ≤ b ∧ d ≠ b ∧ own_St Z h a1 d b (0 : Int32) u2
set_option maxRecDepth 65536 in
set_option maxHeartbeats 40000000 in
theorem rm1 (l : Launch) (Z : State) (a0 : Array Value) (hw : ∀ d ∈ tables_1, d.before a0 Z = true) (ws : List Jvm.Cond) (a1 : Addr) (u0 : Value) (u1 : Value) (u2 : Value) (h0 : Heap) (n0 : Nat) (Z0 : n0 ≤ h0.size) (g_a1 : n0 ≤ a1) (E_a1 : Exa Z h0 a1 "com/example/grelo/grelo/WriteQueue") (F_wr : Fld Z h0 a1 "com/example/grelo/grelo/WriteQueue" "writes" "Ljava/util/ArrayDeque;" u0) (F_se : Fld Z h0 a1 "com/example/grelo/grelo/WriteQueue" "sent" "Ljava/util/ArrayDeque;" u1) (F_fc : Fld Z h0 a1 "com/example/grelo/grelo/WriteQueue" "flushedCount" "I" u2) :
    MetFree l (⟨"com/example/grelo/grelo/WriteQueue", "<init>", "()V"⟩ : MethodName) (head1 (Jvm.Cond.code (⟨"com/example/grelo/grelo/WriteQueue", "<init>", "()V"⟩ : MethodName) prog_27_method_1_code 1 none :: ws) ({ frames := 3, cells := 4, slots := 40, locals := 38 } : Room)) (fun a U => a = #[(.ref a1)] ∧ Z.Warmed39 U.vm ∧ U.heap = h0) (fun _ _ _ _ _ => True) (fun _ U o U' => ∃ v L, o = .returned v ∧ Q1 Z a1 u0 u1 u2 h0 n0 v U'.heap L ∧ FrameEnd U o U' L ({ frames := 3, cells := 4, slots := 40, locals := 38 } : Room).cells ({ frames := 3, cells := 4, slots := 40, locals := 38 } : Room).slots) := by
  refine MetFree.of_bodySF (plainFor_of_name pn_3) hisR ?_
  intro p e s m args below meth c s₁ Bd hml0 hP hK
  obtain ⟨rfl, hZ, hh⟩ := hP
  have hx := Bd.exec
  have hby := Bd.bytes
  have hml : c.maxLocals = 1 := hml0
  have hown : s.vm.findClass "com/example/grelo/grelo/WriteQueue" = some m.cls := findClass_of_methodNamed Bd.named
  have hnm := (name_of_methodNamed Bd.named Bd.method).1
  have X0 : Stand p l e ({ frames := 3, cells := 4, slots := 40, locals := 38 } : Room) s m #[(.ref a1)] below meth c s₁ [] 0 0 := Stand.of_body Bd
  have e0 : s₁.heap = h0 := by rw [← hh, Bd.state]; rfl
  have N0 := Fr.nil n0
  have pre0 : ∀ t, Steps p.tables e below (s₁.setTop (mkF m 0 #[.val (.ref a1)] [])) t → Steps p.tables e below (s₁.setTop (entryFrame m #[(.ref a1)] 1)) t := fun t k => castTop (ef_1 m a1) k
  obtain ⟨T1, X1, e1, st1⟩ := initO X0 hx hZ hown (hw _ (List.mem_of_getElem? (i := 7) rfl)) (hw _ (List.mem_of_getElem? (i := 8) rfl)) (hw _ (List.mem_of_getElem? (i := 9) rfl)) e0 (g := (mkF m 1 #[.val (.ref a1)] [(.ref a1)])) rfl (by rw [hml]; rfl) rfl (hb hby d1_1) (by decide) (W := 0) (by show 2 * 0 + _ ≤ _; exact Nat.le_of_eq rfl) (by decide)
  obtain ⟨T2, h2, X2, e2, E2, A2, D2, -, st2⟩ := newO X1 hx hZ hown (hw _ (List.mem_of_getElem? (i := 10) rfl)) (hw _ (List.mem_of_getElem? (i := 11) rfl)) (hw _ (List.mem_of_getElem? (i := 12) rfl)) e1 (g := (mkF m 5 #[.val (.ref a1)] [(.ref a1)])) rfl (hb hby d1_5) (by decide) (by decide)
  obtain ⟨d1, g2⟩ : ∃ z, z = h0.size := ⟨_, rfl⟩
  rw [← g2] at A2 D2 st2
  have g_d1 : n0 ≤ d1 := Nat.le_trans Z0 (Nat.le_of_eq g2.symm)
  have sz_d1 : h0.size ≤ d1 := Nat.le_trans (Keep.refl h0 [a1]).1 (Nat.le_of_eq g2.symm)
  have ne_a1_d1 : a1 ≠ d1 := Nat.ne_of_lt (Nat.lt_of_lt_of_le E_a1.lt (Nat.le_of_eq g2.symm))
  have E_a1_h2 := (E_a1.ext E2)
  have F_wr_h2 := (F_wr.ext E2)
  have F_se_h2 := (F_se.ext E2)
  have F_fc_h2 := (F_fc.ext E2)
  have Z2 := (Nat.le_trans Z0 E2.1)
  have KK2 := (Keep.refl h0 [a1]).ext E2
  have F_elements_d1 : Fld Z h2 d1 "java/util/ArrayDeque" "elements" "[Ljava/lang/Object;" .null := D2 (Or.inl (hw _ (List.mem_of_getElem? (i := 26) rfl))) (ty := (.array (.object "java/lang/Object"))) (by decide)
  have F_tail_d1 : Fld Z h2 d1 "java/util/ArrayDeque" "tail" "I" (.int (0 : Int32)) := D2 (Or.inl (hw _ (List.mem_of_getElem? (i := 49) rfl))) (ty := .int) (by decide)
  have F_head_d1 : Fld Z h2 d1 "java/util/ArrayDeque" "head" "I" (.int (0 : Int32)) := D2 (Or.inl (hw _ (List.mem_of_getElem? (i := 51) rfl))) (ty := .int) (by decide)
  obtain ⟨_, _, ⟨T3, L3, k3, n3⟩, -, X3, ⟨Lc3, hQ3, l3, y3, z3⟩, st3⟩ := X2.specialBack hx (y := (⟨"java/util/ArrayDeque", "<init>", "()V"⟩ : MethodName)) rfl hown (mvT hZ (hw _ (List.mem_of_getElem? (i := 13) rfl))) (mvT hZ (hw _ (List.mem_of_getElem? (i := 14) rfl))) (mvT hZ (hw _ (List.mem_of_getElem? (i := 15) rfl))) (by decide) (backOf (W := 2) (rm3 l Z a0 hw [] d1 .null (.int (0 : Int32)) (.int (0 : Int32)) h2 n0 Z2 g_d1 A2 F_elements_d1 F_head_d1 F_tail_d1) hZ (hw _ (List.mem_of_getElem? (i := 15) rfl)) (hw _ (List.mem_of_getElem? (i := 12) rfl)) (by decide) (by decide)) (g := (mkF m 9 #[.val (.ref a1)] [(.ref d1), (.ref d1), (.ref a1)])) rfl (by rw [hml]; rfl) (Steps.refl _) (a := d1) (argsL := []) (rest := [(.ref d1), (.ref a1)]) (lenOf pd_0 rfl) rfl (by show 2 * 0 + _ ≤ _; exact Nat.le_of_eq rfl) (hb hby d1_9) (fun _ _ => ⟨rfl, e2, (by decide : 1 + 1 ≤ _), (by decide : 3 + 17 ≤ _)⟩)
  dsimp only [Pt.U, Pt.locs, Pt.cells, Pt.slots] at X3 l3 y3 z3 st3 hQ3
  subst l3 y3 z3
  obtain ⟨rfl, N3q, K3, E3, Fh3, Ft3, b1, g_b1, z_b1, Fe3, O3⟩ := hQ3
  have N3 := Fr.app N0 N3q
  have E_a1_h3 := (E_a1_h2.keep K3)
  have F_wr_h3 := (F_wr_h2.keep K3 (by simp only [List.mem_cons, List.not_mem_nil, or_false, not_or]; exact ne_a1_d1))
  have F_se_h3 := (F_se_h2.keep K3 (by simp only [List.mem_cons, List.not_mem_nil, or_false, not_or]; exact ne_a1_d1))
  have F_fc_h3 := (F_fc_h2.keep K3 (by simp only [List.mem_cons, List.not_mem_nil, or_false, not_or]; exact ne_a1_d1))
  have A2_h3 := (A2.keep K3)
  have Z3 := (Nat.le_trans Z2 K3.1)
  have KK3 := KK2.trans K3 (fun x hx => by simp only [List.mem_cons, List.not_mem_nil, or_false] at hx; rcases hx with rfl <;> first | exact Or.inr sz_d1)
  have ne_a1_b1 : a1 ≠ b1 := Nat.ne_of_lt (Nat.lt_of_lt_of_le E_a1_h2.lt z_b1)
  have ne_d1_b1 : d1 ≠ b1 := Nat.ne_of_lt (Nat.lt_of_lt_of_le A2.lt z_b1)
  have sz_b1 : h0.size ≤ b1 := Nat.le_trans KK2.1 z_b1
  obtain ⟨T4, h4, X4, e4, W4, st4⟩ := putF X3 hx hZ hown (host := "") (Or.inl (hw _ (List.mem_of_getElem? (i := 27) rfl))) Via.refl rfl F_wr_h3 E_a1_h3 (Or.inr ⟨(hw _ (List.mem_of_getElem? (i := 28) rfl)), rfl, hnm⟩) (hw _ (List.mem_of_getElem? (i := 2) rfl)) (ty := (.object "java/util/ArrayDeque")) (by decide) rfl rfl (g := (mkF m 12 #[.val (.ref a1)] [(.ref d1), (.ref a1)])) rfl rfl (hb hby d1_12)
  have Fw4 := F_wr_h3.same W4
  have E_a1_h4 := (E_a1_h3.wr W4)
  have F_se_h4 := (F_se_h3.other W4 (Or.inr (slot_ne (Or.inr (hw _ (List.mem_of_getElem? (i := 30) rfl))) (Or.inr (hw _ (List.mem_of_getElem? (i := 28) rfl))) (by decide) (t := (.object "java/util/ArrayDeque")) (t' := (.object "java/util/ArrayDeque")) (by decide) (by decide))))
  have F_fc_h4 := (F_fc_h3.other W4 (Or.inr (slot_ne (Or.inl (hw _ (List.mem_of_getElem? (i := 37) rfl))) (Or.inr (hw _ (List.mem_of_getElem? (i := 28) rfl))) (by decide) (t := .int) (t' := (.object "java/util/ArrayDeque")) (by decide) (by decide))))
  have E3_h4 := (E3.wr W4)
  have Fh3_h4 := (Fh3.other W4 (Or.inl (Ne.symm ne_a1_d1)))
  have Ft3_h4 := (Ft3.other W4 (Or.inl (Ne.symm ne_a1_d1)))
  have Fe3_h4 := (Fe3.other W4 (Or.inl (Ne.symm ne_a1_d1)))
  have O3_h4 := (O3.other W4 (Ne.symm ne_a1_b1))
  have Z4 := (Nat.le_trans Z3 (Keep.of_wr W4).1)
  have KK4 := KK3.wr W4 (Or.inl (by simp))
  have N4 := Fr.snoc X4 N3 g_a1
  obtain ⟨T5, h5, X5, e5, E5, A5, D5, -, st5⟩ := newO X4 hx hZ hown (hw _ (List.mem_of_getElem? (i := 10) rfl)) (hw _ (List.mem_of_getElem? (i := 11) rfl)) (hw _ (List.mem_of_getElem? (i := 12) rfl)) e4 (g := (mkF m 16 #[.val (.ref a1)] [(.ref a1)])) rfl (hb hby d1_16) (by decide) (by decide)
  obtain ⟨d2, g5⟩ : ∃ z, z = h4.size := ⟨_, rfl⟩
  rw [← g5] at A5 D5 st5
  have g_d2 : n0 ≤ d2 := Nat.le_trans Z4 (Nat.le_of_eq g5.symm)
  have sz_d2 : h0.size ≤ d2 := Nat.le_trans KK4.1 (Nat.le_of_eq g5.symm)
  have ne_a1_d2 : a1 ≠ d2 := Nat.ne_of_lt (Nat.lt_of_lt_of_le E_a1_h4.lt (Nat.le_of_eq g5.symm))
  have ne_d1_d2 : d1 ≠ d2 := Nat.ne_of_lt (Nat.lt_of_lt_of_le E3_h4.lt (Nat.le_of_eq g5.symm))
  have ne_b1_d2 : b1 ≠ d2 := Nat.ne_of_lt (Nat.lt_of_lt_of_le O3_h4.lt (Nat.le_of_eq g5.symm))
  have E_a1_h5 := (E_a1_h4.ext E5)
  have Fw4_h5 := (Fw4.ext E5)
  have F_se_h5 := (F_se_h4.ext E5)
  have F_fc_h5 := (F_fc_h4.ext E5)
  have E3_h5 := (E3_h4.ext E5)
  have Fh3_h5 := (Fh3_h4.ext E5)
  have Ft3_h5 := (Ft3_h4.ext E5)
  have Fe3_h5 := (Fe3_h4.ext E5)
  have O3_h5 := (O3_h4.ext E5)
  have Z5 := (Nat.le_trans Z4 E5.1)
  have KK5 := KK4.ext E5
  have F_elements_d2 : Fld Z h5 d2 "java/util/ArrayDeque" "elements" "[Ljava/lang/Object;" .null := D5 (Or.inl (hw _ (List.mem_of_getElem? (i := 26) rfl))) (ty := (.array (.object "java/lang/Object"))) (by decide)
  have F_tail_d2 : Fld Z h5 d2 "java/util/ArrayDeque" "tail" "I" (.int (0 : Int32)) := D5 (Or.inl (hw _ (List.mem_of_getElem? (i := 49) rfl))) (ty := .int) (by decide)
  have F_head_d2 : Fld Z h5 d2 "java/util/ArrayDeque" "head" "I" (.int (0 : Int32)) := D5 (Or.inl (hw _ (List.mem_of_getElem? (i := 51) rfl))) (ty := .int) (by decide)
  obtain ⟨_, _, ⟨T6, L6, k6, n6⟩, -, X6, ⟨Lc6, hQ6, l6, y6, z6⟩, st6⟩ := X5.specialBack hx (y := (⟨"java/util/ArrayDeque", "<init>", "()V"⟩ : MethodName)) rfl hown (mvT hZ (hw _ (List.mem_of_getElem? (i := 13) rfl))) (mvT hZ (hw _ (List.mem_of_getElem? (i := 14) rfl))) (mvT hZ (hw _ (List.mem_of_getElem? (i := 15) rfl))) (by decide) (backOf (W := 2) (rm3 l Z a0 hw [] d2 .null (.int (0 : Int32)) (.int (0 : Int32)) h5 n0 Z5 g_d2 A5 F_elements_d2 F_head_d2 F_tail_d2) hZ (hw _ (List.mem_of_getElem? (i := 15) rfl)) (hw _ (List.mem_of_getElem? (i := 12) rfl)) (by decide) (by decide)) (g := (mkF m 20 #[.val (.ref a1)] [(.ref d2), (.ref d2), (.ref a1)])) rfl (by rw [hml]; rfl) (Steps.refl _) (a := d2) (argsL := []) (rest := [(.ref d2), (.ref a1)]) (lenOf pd_0 rfl) rfl (by show 2 * 0 + _ ≤ _; exact Nat.le_of_eq rfl) (hb hby d1_20) (fun _ _ => ⟨rfl, e5, (by decide : 3 + 1 ≤ _), (by decide : 23 + 17 ≤ _)⟩)
  dsimp only [Pt.U, Pt.locs, Pt.cells, Pt.slots] at X6 l6 y6 z6 st6 hQ6
  subst l6 y6 z6
  obtain ⟨rfl, N6q, K6, E6, Fh6, Ft6, b2, g_b2, z_b2, Fe6, O6⟩ := hQ6
  have N6 := Fr.app N4 N6q
  have E_a1_h6 := (E_a1_h5.keep K6)
  have Fw4_h6 := (Fw4_h5.keep K6 (by simp only [List.mem_cons, List.not_mem_nil, or_false, not_or]; exact ne_a1_d2))
  have F_se_h6 := (F_se_h5.keep K6 (by simp only [List.mem_cons, List.not_mem_nil, or_false, not_or]; exact ne_a1_d2))
  have F_fc_h6 := (F_fc_h5.keep K6 (by simp only [List.mem_cons, List.not_mem_nil, or_false, not_or]; exact ne_a1_d2))
  have E3_h6 := (E3_h5.keep K6)
  have Fh3_h6 := (Fh3_h5.keep K6 (by simp only [List.mem_cons, List.not_mem_nil, or_false, not_or]; exact ne_d1_d2))
  have Ft3_h6 := (Ft3_h5.keep K6 (by simp only [List.mem_cons, List.not_mem_nil, or_false, not_or]; exact ne_d1_d2))
  have Fe3_h6 := (Fe3_h5.keep K6 (by simp only [List.mem_cons, List.not_mem_nil, or_false, not_or]; exact ne_d1_d2))
  have O3_h6 := (O3_h5.keep K6 (by simp only [List.mem_cons, List.not_mem_nil, or_false, not_or]; exact ne_b1_d2))
  have A5_h6 := (A5.keep K6)
  have Z6 := (Nat.le_trans Z5 K6.1)
  have KK6 := KK5.trans K6 (fun x hx => by simp only [List.mem_cons, List.not_mem_nil, or_false] at hx; rcases hx with rfl <;> first | exact Or.inr sz_d2)
  have ne_a1_b2 : a1 ≠ b2 := Nat.ne_of_lt (Nat.lt_of_lt_of_le E_a1_h5.lt z_b2)
  have ne_d1_b2 : d1 ≠ b2 := Nat.ne_of_lt (Nat.lt_of_lt_of_le E3_h5.lt z_b2)
  have ne_b1_b2 : b1 ≠ b2 := Nat.ne_of_lt (Nat.lt_of_lt_of_le O3_h5.lt z_b2)
  have ne_d2_b2 : d2 ≠ b2 := Nat.ne_of_lt (Nat.lt_of_lt_of_le A5.lt z_b2)
  have sz_b2 : h0.size ≤ b2 := Nat.le_trans KK5.1 z_b2
  obtain ⟨T7, h7, X7, e7, W7, st7⟩ := putF X6 hx hZ hown (host := "") (Or.inl (hw _ (List.mem_of_getElem? (i := 29) rfl))) Via.refl rfl F_se_h6 E_a1_h6 (Or.inr ⟨(hw _ (List.mem_of_getElem? (i := 30) rfl)), rfl, hnm⟩) (hw _ (List.mem_of_getElem? (i := 2) rfl)) (ty := (.object "java/util/ArrayDeque")) (by decide) rfl rfl (g := (mkF m 23 #[.val (.ref a1)] [(.ref d2), (.ref a1)])) rfl rfl (hb hby d1_23)
  have Fw7 := F_se_h6.same W7
  have E_a1_h7 := (E_a1_h6.wr W7)
  have Fw4_h7 := (Fw4_h6.other W7 (Or.inr (slot_ne (Or.inr (hw _ (List.mem_of_getElem? (i := 28) rfl))) (Or.inr (hw _ (List.mem_of_getElem? (i := 30) rfl))) (by decide) (t := (.object "java/util/ArrayDeque")) (t' := (.object "java/util/ArrayDeque")) (by decide) (by decide))))
  have F_fc_h7 := (F_fc_h6.other W7 (Or.inr (slot_ne (Or.inl (hw _ (List.mem_of_getElem? (i := 37) rfl))) (Or.inr (hw _ (List.mem_of_getElem? (i := 30) rfl))) (by decide) (t := .int) (t' := (.object "java/util/ArrayDeque")) (by decide) (by decide))))
  have E3_h7 := (E3_h6.wr W7)
  have Fh3_h7 := (Fh3_h6.other W7 (Or.inl (Ne.symm ne_a1_d1)))
  have Ft3_h7 := (Ft3_h6.other W7 (Or.inl (Ne.symm ne_a1_d1)))
  have Fe3_h7 := (Fe3_h6.other W7 (Or.inl (Ne.symm ne_a1_d1)))
  have O3_h7 := (O3_h6.other W7 (Ne.symm ne_a1_b1))
  have E6_h7 := (E6.wr W7)
  have Fh6_h7 := (Fh6.other W7 (Or.inl (Ne.symm ne_a1_d2)))
  have Ft6_h7 := (Ft6.other W7 (Or.inl (Ne.symm ne_a1_d2)))
  have Fe6_h7 := (Fe6.other W7 (Or.inl (Ne.symm ne_a1_d2)))
  have O6_h7 := (O6.other W7 (Ne.symm ne_a1_b2))
  have Z7 := (Nat.le_trans Z6 (Keep.of_wr W7).1)
  have KK7 := KK6.wr W7 (Or.inl (by simp))
  have N7 := Fr.snoc X7 N6 g_a1
  obtain ⟨fs, hr, hrun, hended, hW, hsame⟩ := X7.leave (v := none) (fun _ => rfl)
  refine ⟨_, _, pre0 _ ?_, hrun, hended, _, _, rfl, ?_, ⟨_, rfl⟩, hW, hsame.mono (by decide) (by decide)⟩
  · show Steps p.tables e below (s₁.setTop (mkF m 0 #[.val (.ref a1)] [])) _
    refine XS.aloadN X0.here hx rfl (hb hby d1_0) rfl rfl ?_
    show Steps p.tables e below (s₁.setTop (mkF m 1 #[.val (.ref a1)] [(.ref a1)])) _
    refine st1 _ ?_
    show Steps p.tables e below (T1.setTop (mkF m 4 #[.val (.ref a1)] [])) _
    refine XS.aloadN X1.here hx rfl (hb hby d1_4) rfl rfl ?_
    show Steps p.tables e below (T1.setTop (mkF m 5 #[.val (.ref a1)] [(.ref a1)])) _
    refine st2 _ ?_
    show Steps p.tables e below (T2.setTop (mkF m 8 #[.val (.ref a1)] [(.ref d1), (.ref a1)])) _
    refine XS.dup X2.here hx rfl (hb hby d1_8) rfl rfl ?_
    show Steps p.tables e below (T2.setTop (mkF m 9 #[.val (.ref a1)] [(.ref d1), (.ref d1), (.ref a1)])) _
    refine st3.trans ?_
    show Steps p.tables e below (T3.setTop (mkF m 12 #[.val (.ref a1)] [(.ref d1), (.ref a1)])) _
    refine st4 _ ?_
    show Steps p.tables e below (T4.setTop (mkF m 15 #[.val (.ref a1)] [])) _
    refine XS.aloadN X4.here hx rfl (hb hby d1_15) rfl rfl ?_
    show Steps p.tables e below (T4.setTop (mkF m 16 #[.val (.ref a1)] [(.ref a1)])) _
    refine st5 _ ?_
    show Steps p.tables e below (T5.setTop (mkF m 19 #[.val (.ref a1)] [(.ref d2), (.ref a1)])) _
    refine XS.dup X5.here hx rfl (hb hby d1_19) rfl rfl ?_
    show Steps p.tables e below (T5.setTop (mkF m 20 #[.val (.ref a1)] [(.ref d2), (.ref d2), (.ref a1)])) _
    refine st6.trans ?_
    show Steps p.tables e below (T6.setTop (mkF m 23 #[.val (.ref a1)] [(.ref d2), (.ref a1)])) _
    refine st7 _ ?_
    show Steps p.tables e below (T7.setTop (mkF m 26 #[.val (.ref a1)] [])) _
    exact X7.returnOut hx Bd.returns (hb hby d1_26) hr
  · show Q1 Z a1 u0 u1 u2 h0 n0 _ T7.heap _
    rw [e7]
    exact ⟨rfl, N7, KK7, d1, b1, g_d1, g_b1, sz_d1, sz_b1, ne_d1_b1, ⟨E_a1_h7, Fw4_h7, F_fc_h7, E3_h7, Fh3_h7, Ft3_h7, Fe3_h7, O3_h7⟩⟩

theorem d5_0 : decode prog_27_method_4_code 0 = .ok (.aload_n 0, 1) := by decide +kernel
theorem d5_1 : decode prog_27_method_4_code 1 = .ok (.getfield 32, 3) := by decide +kernel
theorem d5_4 : decode prog_27_method_4_code 4 = .ok (.ifCond .le 7, 3) := by decide +kernel
theorem d5_7 : decode prog_27_method_4_code 7 = .ok (.iconst 1, 1) := by decide +kernel
theorem d5_8 : decode prog_27_method_4_code 8 = .ok (.goto 4, 3) := by decide +kernel
theorem d5_11 : decode prog_27_method_4_code 11 = .ok (.iconst 0, 1) := by decide +kernel
theorem d5_12 : decode prog_27_method_4_code 12 = .ok (.ireturn, 1) := by decide +kernel
theorem ef_5 (m : MethodId) (x0 : Addr) : entryFrame m #[(.ref x0)] 1 = mkF m 0 #[.val (.ref x0)] [] := by first | (simp [entryFrame, mkF, argsToLocals, Value.category]; done) | rfl
def Q5 (Z : State) (a1 : Addr) (w2 : Int32) (h0 : Heap) (n0 : Nat) (v : Option Value) (h : Heap) (L : List Loc) : Prop := v = some (.int (own_has w2)) ∧ Fr n0 L ∧ h = h0
set_option maxRecDepth 65536 in
set_option maxHeartbeats 40000000 in
theorem rm5 (l : Launch) (Z : State) (a0 : Array Value) (hw : ∀ d ∈ tables_1, d.before a0 Z = true) (ws : List Jvm.Cond) (a1 : Addr) (w2 : Int32) (h0 : Heap) (n0 : Nat) (Z0 : n0 ≤ h0.size) (F_fc : Fld Z h0 a1 "com/example/grelo/grelo/WriteQueue" "flushedCount" "I" (.int w2)) :
    MetFree l (⟨"com/example/grelo/grelo/WriteQueue", "hasFlushed", "()Z"⟩ : MethodName) (head1 (Jvm.Cond.code (⟨"com/example/grelo/grelo/WriteQueue", "hasFlushed", "()Z"⟩ : MethodName) prog_27_method_4_code 1 (some .boolean) :: ws) ({ frames := 0, cells := 0, slots := 0, locals := 0 } : Room)) (fun a U => a = #[(.ref a1)] ∧ Z.Warmed39 U.vm ∧ U.heap = h0) (fun _ _ _ _ _ => True) (fun _ U o U' => ∃ v L, o = .returned v ∧ Q5 Z a1 w2 h0 n0 v U'.heap L ∧ FrameEnd U o U' L ({ frames := 0, cells := 0, slots := 0, locals := 0 } : Room).cells ({ frames := 0, cells := 0, slots := 0, locals := 0 } : Room).slots) := by
  refine MetFree.of_bodySF (plainFor_of_name pn_3) hisR ?_
  intro p e s m args below meth c s₁ Bd hml0 hP hK
  obtain ⟨rfl, hZ, hh⟩ := hP
  have hx := Bd.exec
  have hby := Bd.bytes
  have hml : c.maxLocals = 1 := hml0
  have hown : s.vm.findClass "com/example/grelo/grelo/WriteQueue" = some m.cls := findClass_of_methodNamed Bd.named
  have hnm := (name_of_methodNamed Bd.named Bd.method).1
  have X0 : Stand p l e ({ frames := 0, cells := 0, slots := 0, locals := 0 } : Room) s m #[(.ref a1)] below meth c s₁ [] 0 0 := Stand.of_body Bd
  have e0 : s₁.heap = h0 := by rw [← hh, Bd.state]; rfl
  have N0 := Fr.nil n0
  have pre0 : ∀ t, Steps p.tables e below (s₁.setTop (mkF m 0 #[.val (.ref a1)] [])) t → Steps p.tables e below (s₁.setTop (entryFrame m #[(.ref a1)] 1)) t := fun t k => castTop (ef_5 m a1) k
  obtain ⟨T1, X1, e1, st1⟩ := getF X0 hx hZ hown (host := "") (Or.inl (hw _ (List.mem_of_getElem? (i := 36) rfl))) Via.refl e0 F_fc (g := (mkF m 1 #[.val (.ref a1)] [(.ref a1)])) rfl rfl (hb hby d5_1)
  obtain ⟨b2, hb2⟩ : ∃ z : Int32, z = (if (0 : Int32) < w2 then (1 : Int32) else (0 : Int32)) := ⟨_, rfl⟩
  have st2 : ∀ t, Steps p.tables e below (T1.setTop (mkF m 12 #[.val (.ref a1)] [(.int b2)])) t → Steps p.tables e below (T1.setTop (mkF m 4 #[.val (.ref a1)] [(.int w2)])) t := by
    intro t k
    by_cases hcs1 : (0 : Int32) < w2
    · skip
      rw [if_pos hcs1] at hb2
      rw [hb2] at k
      show Steps p.tables e below (T1.setTop (mkF m 4 #[.val (.ref a1)] [(.int w2)])) _
      refine XS.ifNo X1.here hx rfl (hb hby d5_4) rfl ((if0 _ _).trans (tlt hcs1).2.2.2) ?_
      show Steps p.tables e below (T1.setTop (mkF m 7 #[.val (.ref a1)] [])) _
      refine XS.iconst X1.here hx rfl (hb hby d5_7) ?_
      show Steps p.tables e below (T1.setTop (mkF m 8 #[.val (.ref a1)] [(.int (1 : Int32))])) _
      refine XS.goto X1.here hx rfl (pc0 := 8) (pc' := 12) rfl (hb hby d5_8) (by decide) (by decide) ?_
      exact k
    · skip
      rw [if_neg hcs1] at hb2
      rw [hb2] at k
      show Steps p.tables e below (T1.setTop (mkF m 4 #[.val (.ref a1)] [(.int w2)])) _
      refine XS.ifYes X1.here hx rfl (pc0 := 4) (pc' := 11) rfl (hb hby d5_4) rfl ((if0 _ _).trans (flt hcs1).2.2.2) (by decide) (by decide) ?_
      show Steps p.tables e below (T1.setTop (mkF m 11 #[.val (.ref a1)] [])) _
      refine XS.iconst X1.here hx rfl (hb hby d5_11) ?_
      exact k
  have hnar : nar .boolean b2 = b2 := by
    rw [hb2]
    repeat' split
    all_goals rfl
  obtain ⟨fs, hr, hrun, hended, hW, hsame⟩ := X1.leave (v := some (.int b2)) (fun h => by rw [Bd.returns] at h; cases h)
  refine ⟨_, _, pre0 _ ?_, hrun, hended, _, _, rfl, ?_, ⟨_, rfl⟩, hW, hsame.mono (by decide) (by decide)⟩
  · show Steps p.tables e below (s₁.setTop (mkF m 0 #[.val (.ref a1)] [])) _
    refine XS.aloadN X0.here hx rfl (hb hby d5_0) rfl rfl ?_
    show Steps p.tables e below (s₁.setTop (mkF m 1 #[.val (.ref a1)] [(.ref a1)])) _
    refine st1 _ ?_
    show Steps p.tables e below (T1.setTop (mkF m 4 #[.val (.ref a1)] [(.int w2)])) _
    refine st2 _ ?_
    show Steps p.tables e below (T1.setTop (mkF m 12 #[.val (.ref a1)] [(.int b2)])) _
    exact retN X1 hx (t := .boolean) Bd.returns (by simp) (hb hby d5_12) (by rw [hnar]; exact hr)
  · show Q5 Z a1 w2 h0 n0 _ T1.heap _
    rw [e1]
    exact ⟨by rw [hb2]; rfl, N0, rfl⟩

theorem d8_0 : decode jdk_21_method_9_code 0 = .ok (.iload_n 0, 1) := by decide +kernel
theorem d8_1 : decode jdk_21_method_9_code 1 = .ok (.iload_n 1, 1) := by decide +kernel
theorem d8_2 : decode jdk_21_method_9_code 2 = .ok (.isub, 1) := by decide +kernel
theorem d8_3 : decode jdk_21_method_9_code 3 = .ok (.dup, 1) := by decide +kernel
theorem d8_4 : decode jdk_21_method_9_code 4 = .ok (.istore_n 0, 1) := by decide +kernel
theorem d8_5 : decode jdk_21_method_9_code 5 = .ok (.ifCond .ge 7, 3) := by decide +kernel
theorem d8_8 : decode jdk_21_method_9_code 8 = .ok (.iload_n 0, 1) := by decide +kernel
theorem d8_9 : decode jdk_21_method_9_code 9 = .ok (.iload_n 2, 1) := by decide +kernel
theorem d8_10 : decode jdk_21_method_9_code 10 = .ok (.iadd, 1) := by decide +kernel
theorem d8_11 : decode jdk_21_method_9_code 11 = .ok (.istore_n 0, 1) := by decide +kernel
theorem d8_12 : decode jdk_21_method_9_code 12 = .ok (.iload_n 0, 1) := by decide +kernel
theorem d8_13 : decode jdk_21_method_9_code 13 = .ok (.ireturn, 1) := by decide +kernel
theorem ef_8 (m : MethodId) (x0 : Int32) (x1 : Int32) (x2 : Int32) : entryFrame m #[(.int x0), (.int x1), (.int x2)] 3 = mkF m 0 #[.val (.int x0), .val (.int x1), .val (.int x2)] [] := by first | (simp [entryFrame, mkF, argsToLocals, Value.category]; done) | rfl
def Q8 (Z : State) (p1 : Int32) (p2 : Int32) (p3 : Int32)  (h0 : Heap) (n0 : Nat) (v : Option Value) (h : Heap) (L : List Loc) : Prop := v = some (.int (own_sub p1 p2 p3)) ∧ Fr n0 L ∧ h = h0
set_option maxRecDepth 65536 in
set_option maxHeartbeats 40000000 in
theorem rm8 (l : Launch) (Z : State) (a0 : Array Value) (hw : ∀ d ∈ tables_1, d.before a0 Z = true) (ws : List Jvm.Cond) (p1 : Int32) (p2 : Int32) (p3 : Int32)  (h0 : Heap) (n0 : Nat) (Z0 : n0 ≤ h0.size)  :
    MetFree l (⟨"java/util/ArrayDeque", "sub", "(III)I"⟩ : MethodName) (head1 (Jvm.Cond.code (⟨"java/util/ArrayDeque", "sub", "(III)I"⟩ : MethodName) jdk_21_method_9_code 3 (some .int) :: ws) ({ frames := 0, cells := 0, slots := 0, locals := 0 } : Room)) (fun a U => a = #[(.int p1), (.int p2), (.int p3)] ∧ Z.Warmed39 U.vm ∧ U.heap = h0) (fun _ _ _ _ _ => True) (fun _ U o U' => ∃ v L, o = .returned v ∧ Q8 Z p1 p2 p3  h0 n0 v U'.heap L ∧ FrameEnd U o U' L ({ frames := 0, cells := 0, slots := 0, locals := 0 } : Room).cells ({ frames := 0, cells := 0, slots := 0, locals := 0 } : Room).slots) := by
  refine MetFree.of_bodySF (plainFor_of_name pn_2) hisR ?_
  intro p e s m args below meth c s₁ Bd hml0 hP hK
  obtain ⟨rfl, hZ, hh⟩ := hP
  have hx := Bd.exec
  have hby := Bd.bytes
  have hml : c.maxLocals = 3 := hml0
  have hown : s.vm.findClass "java/util/ArrayDeque" = some m.cls := findClass_of_methodNamed Bd.named
  have hnm := (name_of_methodNamed Bd.named Bd.method).1
  have X0 : Stand p l e ({ frames := 0, cells := 0, slots := 0, locals := 0 } : Room) s m #[(.int p1), (.int p2), (.int p3)] below meth c s₁ [] 0 0 := Stand.of_body Bd
  have e0 : s₁.heap = h0 := by rw [← hh, Bd.state]; rfl
  have N0 := Fr.nil n0
  have pre0 : ∀ t, Steps p.tables e below (s₁.setTop (mkF m 0 #[.val (.int p1), .val (.int p2), .val (.int p3)] [])) t → Steps p.tables e below (s₁.setTop (entryFrame m #[(.int p1), (.int p2), (.int p3)] 3)) t := fun t k => castTop (ef_8 m p1 p2 p3) k
  obtain ⟨b1, hb1⟩ : ∃ z : Int32, z = (if (p1 - p2) < (0 : Int32) then ((p1 - p2) + p3) else (p1 - p2)) := ⟨_, rfl⟩
  have st1 : ∀ t, Steps p.tables e below (s₁.setTop (mkF m 12 #[.val (.int b1), .val (.int p2), .val (.int p3)] [])) t → Steps p.tables e below (s₁.setTop (mkF m 0 #[.val (.int p1), .val (.int p2), .val (.int p3)] [])) t := by
    intro t k
    by_cases hcs1 : (p1 - p2) < (0 : Int32)
    · skip
      rw [if_pos hcs1] at hb1
      rw [hb1] at k
      show Steps p.tables e below (s₁.setTop (mkF m 0 #[.val (.int p1), .val (.int p2), .val (.int p3)] [])) _
      refine XS.iloadN X0.here hx rfl (hb hby d8_0) rfl ?_
      show Steps p.tables e below (s₁.setTop (mkF m 1 #[.val (.int p1), .val (.int p2), .val (.int p3)] [(.int p1)])) _
      refine XS.iloadN X0.here hx rfl (hb hby d8_1) rfl ?_
      show Steps p.tables e below (s₁.setTop (mkF m 2 #[.val (.int p1), .val (.int p2), .val (.int p3)] [(.int p2), (.int p1)])) _
      refine XS.isub X0.here hx rfl (hb hby d8_2) rfl ?_
      show Steps p.tables e below (s₁.setTop (mkF m 3 #[.val (.int p1), .val (.int p2), .val (.int p3)] [(.int (p1 - p2))])) _
      refine XS.dup X0.here hx rfl (hb hby d8_3) rfl rfl ?_
      show Steps p.tables e below (s₁.setTop (mkF m 4 #[.val (.int p1), .val (.int p2), .val (.int p3)] [(.int (p1 - p2)), (.int (p1 - p2))])) _
      refine XS.istoreN X0.here hx rfl (hb hby d8_4) rfl (l' := #[.val (.int (p1 - p2)), .val (.int p2), .val (.int p3)]) rfl ?_
      show Steps p.tables e below (s₁.setTop (mkF m 5 #[.val (.int (p1 - p2)), .val (.int p2), .val (.int p3)] [(.int (p1 - p2))])) _
      refine XS.ifNo X0.here hx rfl (hb hby d8_5) rfl ((if0 _ _).trans (tlt hcs1).2.1) ?_
      show Steps p.tables e below (s₁.setTop (mkF m 8 #[.val (.int (p1 - p2)), .val (.int p2), .val (.int p3)] [])) _
      refine XS.iloadN X0.here hx rfl (hb hby d8_8) rfl ?_
      show Steps p.tables e below (s₁.setTop (mkF m 9 #[.val (.int (p1 - p2)), .val (.int p2), .val (.int p3)] [(.int (p1 - p2))])) _
      refine XS.iloadN X0.here hx rfl (hb hby d8_9) rfl ?_
      show Steps p.tables e below (s₁.setTop (mkF m 10 #[.val (.int (p1 - p2)), .val (.int p2), .val (.int p3)] [(.int p3), (.int (p1 - p2))])) _
      refine XS.iadd X0.here hx rfl (hb hby d8_10) rfl ?_
      show Steps p.tables e below (s₁.setTop (mkF m 11 #[.val (.int (p1 - p2)), .val (.int p2), .val (.int p3)] [(.int ((p1 - p2) + p3))])) _
      refine XS.istoreN X0.here hx rfl (hb hby d8_11) rfl (l' := #[.val (.int ((p1 - p2) + p3)), .val (.int p2), .val (.int p3)]) rfl ?_
      exact k
    · skip
      rw [if_neg hcs1] at hb1
      rw [hb1] at k
      show Steps p.tables e below (s₁.setTop (mkF m 0 #[.val (.int p1), .val (.int p2), .val (.int p3)] [])) _
      refine XS.iloadN X0.here hx rfl (hb hby d8_0) rfl ?_
      show Steps p.tables e below (s₁.setTop (mkF m 1 #[.val (.int p1), .val (.int p2), .val (.int p3)] [(.int p1)])) _
      refine XS.iloadN X0.here hx rfl (hb hby d8_1) rfl ?_
      show Steps p.tables e below (s₁.setTop (mkF m 2 #[.val (.int p1), .val (.int p2), .val (.int p3)] [(.int p2), (.int p1)])) _
      refine XS.isub X0.here hx rfl (hb hby d8_2) rfl ?_
      show Steps p.tables e below (s₁.setTop (mkF m 3 #[.val (.int p1), .val (.int p2), .val (.int p3)] [(.int (p1 - p2))])) _
      refine XS.dup X0.here hx rfl (hb hby d8_3) rfl rfl ?_
      show Steps p.tables e below (s₁.setTop (mkF m 4 #[.val (.int p1), .val (.int p2), .val (.int p3)] [(.int (p1 - p2)), (.int (p1 - p2))])) _
      refine XS.istoreN X0.here hx rfl (hb hby d8_4) rfl (l' := #[.val (.int (p1 - p2)), .val (.int p2), .val (.int p3)]) rfl ?_
      show Steps p.tables e below (s₁.setTop (mkF m 5 #[.val (.int (p1 - p2)), .val (.int p2), .val (.int p3)] [(.int (p1 - p2))])) _
      refine XS.ifYes X0.here hx rfl (pc0 := 5) (pc' := 12) rfl (hb hby d8_5) rfl ((if0 _ _).trans (flt hcs1).2.1) (by decide) (by decide) ?_
      exact k
  obtain ⟨fs, hr, hrun, hended, hW, hsame⟩ := X0.leave (v := some (.int b1)) (fun h => by rw [Bd.returns] at h; cases h)
  refine ⟨_, _, pre0 _ ?_, hrun, hended, _, _, rfl, ?_, ⟨_, rfl⟩, hW, hsame.mono (by decide) (by decide)⟩
  · show Steps p.tables e below (s₁.setTop (mkF m 0 #[.val (.int p1), .val (.int p2), .val (.int p3)] [])) _
    refine st1 _ ?_
    show Steps p.tables e below (s₁.setTop (mkF m 12 #[.val (.int b1), .val (.int p2), .val (.int p3)] [])) _
    refine XS.iloadN X0.here hx rfl (hb hby d8_12) rfl ?_
    show Steps p.tables e below (s₁.setTop (mkF m 13 #[.val (.int b1), .val (.int p2), .val (.int p3)] [(.int b1)])) _
    exact retI X0 hx Bd.returns (hb hby d8_13) hr
  · show Q8 Z p1 p2 p3  h0 n0 _ s₁.heap _
    rw [e0]
    exact ⟨by rw [hb1]; rfl, N0, rfl⟩

theorem d12_0 : decode jdk_21_method_6_code 0 = .ok (.iinc 0 1, 3) := by decide +kernel
theorem d12_3 : decode jdk_21_method_6_code 3 = .ok (.iload_n 0, 1) := by decide +kernel
theorem d12_4 : decode jdk_21_method_6_code 4 = .ok (.iload_n 1, 1) := by decide +kernel
theorem d12_5 : decode jdk_21_method_6_code 5 = .ok (.if_icmp .lt 5, 3) := by decide +kernel
theorem d12_8 : decode jdk_21_method_6_code 8 = .ok (.iconst 0, 1) := by decide +kernel
theorem d12_9 : decode jdk_21_method_6_code 9 = .ok (.istore_n 0, 1) := by decide +kernel
theorem d12_10 : decode jdk_21_method_6_code 10 = .ok (.iload_n 0, 1) := by decide +kernel
theorem d12_11 : decode jdk_21_method_6_code 11 = .ok (.ireturn, 1) := by decide +kernel
theorem ef_12 (m : MethodId) (x0 : Int32) (x1 : Int32) : entryFrame m #[(.int x0), (.int x1)] 2 = mkF m 0 #[.val (.int x0), .val (.int x1)] [] := by first | (simp [entryFrame, mkF, argsToLocals, Value.category]; done) | rfl
def Q12 (Z : State) (p1 : Int32) (p2 : Int32)  (h0 : Heap) (n0 : Nat) (v : Option Value) (h : Heap) (L : List Loc) : Prop := v = some (.int (own_inc p1 p2)) ∧ Fr n0 L ∧ h = h0
set_option maxRecDepth 65536 in
set_option maxHeartbeats 40000000 in
theorem rm12 (l : Launch) (Z : State) (a0 : Array Value) (hw : ∀ d ∈ tables_1, d.before a0 Z = true) (ws : List Jvm.Cond) (p1 : Int32) (p2 : Int32)  (h0 : Heap) (n0 : Nat) (Z0 : n0 ≤ h0.size)  :
    MetFree l (⟨"java/util/ArrayDeque", "inc", "(II)I"⟩ : MethodName) (head1 (Jvm.Cond.code (⟨"java/util/ArrayDeque", "inc", "(II)I"⟩ : MethodName) jdk_21_method_6_code 2 (some .int) :: ws) ({ frames := 0, cells := 0, slots := 0, locals := 0 } : Room)) (fun a U => a = #[(.int p1), (.int p2)] ∧ Z.Warmed39 U.vm ∧ U.heap = h0) (fun _ _ _ _ _ => True) (fun _ U o U' => ∃ v L, o = .returned v ∧ Q12 Z p1 p2  h0 n0 v U'.heap L ∧ FrameEnd U o U' L ({ frames := 0, cells := 0, slots := 0, locals := 0 } : Room).cells ({ frames := 0, cells := 0, slots := 0, locals := 0 } : Room).slots) := by
  refine MetFree.of_bodySF (plainFor_of_name pn_2) hisR ?_
  intro p e s m args below meth c s₁ Bd hml0 hP hK
  obtain ⟨rfl, hZ, hh⟩ := hP
  have hx := Bd.exec
  have hby := Bd.bytes
  have hml : c.maxLocals = 2 := hml0
  have hown : s.vm.findClass "java/util/ArrayDeque" = some m.cls := findClass_of_methodNamed Bd.named
  have hnm := (name_of_methodNamed Bd.named Bd.method).1
  have X0 : Stand p l e ({ frames := 0, cells := 0, slots := 0, locals := 0 } : Room) s m #[(.int p1), (.int p2)] below meth c s₁ [] 0 0 := Stand.of_body Bd
  have e0 : s₁.heap = h0 := by rw [← hh, Bd.state]; rfl
  have N0 := Fr.nil n0
  have pre0 : ∀ t, Steps p.tables e below (s₁.setTop (mkF m 0 #[.val (.int p1), .val (.int p2)] [])) t → Steps p.tables e below (s₁.setTop (entryFrame m #[(.int p1), (.int p2)] 2)) t := fun t k => castTop (ef_12 m p1 p2) k
  obtain ⟨b1, hb1⟩ : ∃ z : Int32, z = (if (p1 + (1 : Int32)) < p2 then (p1 + (1 : Int32)) else (0 : Int32)) := ⟨_, rfl⟩
  have st1 : ∀ t, Steps p.tables e below (s₁.setTop (mkF m 10 #[.val (.int b1), .val (.int p2)] [])) t → Steps p.tables e below (s₁.setTop (mkF m 0 #[.val (.int p1), .val (.int p2)] [])) t := by
    intro t k
    by_cases hcs1 : (p1 + (1 : Int32)) < p2
    · skip
      rw [if_pos hcs1] at hb1
      rw [hb1] at k
      show Steps p.tables e below (s₁.setTop (mkF m 0 #[.val (.int p1), .val (.int p2)] [])) _
      refine XS.iinc X0.here hx rfl (hb hby d12_0) rfl (l' := #[.val (.int (p1 + (1 : Int32))), .val (.int p2)]) rfl ?_
      show Steps p.tables e below (s₁.setTop (mkF m 3 #[.val (.int (p1 + (1 : Int32))), .val (.int p2)] [])) _
      refine XS.iloadN X0.here hx rfl (hb hby d12_3) rfl ?_
      show Steps p.tables e below (s₁.setTop (mkF m 4 #[.val (.int (p1 + (1 : Int32))), .val (.int p2)] [(.int (p1 + (1 : Int32)))])) _
      refine XS.iloadN X0.here hx rfl (hb hby d12_4) rfl ?_
      show Steps p.tables e below (s₁.setTop (mkF m 5 #[.val (.int (p1 + (1 : Int32))), .val (.int p2)] [(.int p2), (.int (p1 + (1 : Int32)))])) _
      refine XS.icmpYes X0.here hx rfl (pc0 := 5) (pc' := 10) rfl (hb hby d12_5) rfl (tlt hcs1).1 (by decide) (by decide) ?_
      exact k
    · skip
      rw [if_neg hcs1] at hb1
      rw [hb1] at k
      show Steps p.tables e below (s₁.setTop (mkF m 0 #[.val (.int p1), .val (.int p2)] [])) _
      refine XS.iinc X0.here hx rfl (hb hby d12_0) rfl (l' := #[.val (.int (p1 + (1 : Int32))), .val (.int p2)]) rfl ?_
      show Steps p.tables e below (s₁.setTop (mkF m 3 #[.val (.int (p1 + (1 : Int32))), .val (.int p2)] [])) _
      refine XS.iloadN X0.here hx rfl (hb hby d12_3) rfl ?_
      show Steps p.tables e below (s₁.setTop (mkF m 4 #[.val (.int (p1 + (1 : Int32))), .val (.int p2)] [(.int (p1 + (1 : Int32)))])) _
      refine XS.iloadN X0.here hx rfl (hb hby d12_4) rfl ?_
      show Steps p.tables e below (s₁.setTop (mkF m 5 #[.val (.int (p1 + (1 : Int32))), .val (.int p2)] [(.int p2), (.int (p1 + (1 : Int32)))])) _
      refine XS.icmpNo X0.here hx rfl (hb hby d12_5) rfl (flt hcs1).1 ?_
      show Steps p.tables e below (s₁.setTop (mkF m 8 #[.val (.int (p1 + (1 : Int32))), .val (.int p2)] [])) _
      refine XS.iconst X0.here hx rfl (hb hby d12_8) ?_
      show Steps p.tables e below (s₁.setTop (mkF m 9 #[.val (.int (p1 + (1 : Int32))), .val (.int p2)] [(.int (0 : Int32))])) _
      refine XS.istoreN X0.here hx rfl (hb hby d12_9) rfl (l' := #[.val (.int (0 : Int32)), .val (.int p2)]) rfl ?_
      exact k
  obtain ⟨fs, hr, hrun, hended, hW, hsame⟩ := X0.leave (v := some (.int b1)) (fun h => by rw [Bd.returns] at h; cases h)
  refine ⟨_, _, pre0 _ ?_, hrun, hended, _, _, rfl, ?_, ⟨_, rfl⟩, hW, hsame.mono (by decide) (by decide)⟩
  · show Steps p.tables e below (s₁.setTop (mkF m 0 #[.val (.int p1), .val (.int p2)] [])) _
    refine st1 _ ?_
    show Steps p.tables e below (s₁.setTop (mkF m 10 #[.val (.int b1), .val (.int p2)] [])) _
    refine XS.iloadN X0.here hx rfl (hb hby d12_10) rfl ?_
    show Steps p.tables e below (s₁.setTop (mkF m 11 #[.val (.int b1), .val (.int p2)] [(.int b1)])) _
    exact retI X0 hx Bd.returns (hb hby d12_11) hr
  · show Q12 Z p1 p2  h0 n0 _ s₁.heap _
    rw [e0]
    exact ⟨by rw [hb1]; rfl, N0, rfl⟩

theorem d7_0 : decode jdk_21_method_37_code 0 = .ok (.aload_n 0, 1) := by decide +kernel
theorem d7_1 : decode jdk_21_method_37_code 1 = .ok (.getfield 20, 3) := by decide +kernel
theorem d7_4 : decode jdk_21_method_37_code 4 = .ok (.aload_n 0, 1) := by decide +kernel
theorem d7_5 : decode jdk_21_method_37_code 5 = .ok (.getfield 24, 3) := by decide +kernel
theorem d7_8 : decode jdk_21_method_37_code 8 = .ok (.aload_n 0, 1) := by decide +kernel
theorem d7_9 : decode jdk_21_method_37_code 9 = .ok (.getfield 3, 3) := by decide +kernel
theorem d7_12 : decode jdk_21_method_37_code 12 = .ok (.arraylength, 1) := by decide +kernel
theorem pd_1 : parseMethodDescriptor "(III)I" = some ⟨[.int, .int, .int], some .int⟩ := by decide +kernel
theorem d7_13 : decode jdk_21_method_37_code 13 = .ok (.invokestatic 127, 3) := by decide +kernel
theorem d7_16 : decode jdk_21_method_37_code 16 = .ok (.ireturn, 1) := by decide +kernel
theorem ef_7 (m : MethodId) (x0 : Addr) : entryFrame m #[(.ref x0)] 1 = mkF m 0 #[.val (.ref x0)] [] := by first | (simp [entryFrame, mkF, argsToLocals, Value.category]; done) | rfl
def Q7 (Z : State) (a1 : Addr) (b : Addr) (k : Int32) (h0 : Heap) (n0 : Nat) (v : Option Value) (h : Heap) (L : List Loc) : Prop := v = some (.int (own_sub k (0 : Int32) (17 : Int32))) ∧ Fr n0 L ∧ h = h0
set_option maxRecDepth 65536 in
set_option maxHeartbeats 40000000 in
theorem rm7 (l : Launch) (Z : State) (a0 : Array Value) (hw : ∀ d ∈ tables_1, d.before a0 Z = true) (ws : List Jvm.Cond) (a1 : Addr) (b : Addr) (k : Int32) (h0 : Heap) (n0 : Nat) (Z0 : n0 ≤ h0.size) (F_hd : Fld Z h0 a1 "java/util/ArrayDeque" "head" "I" (.int (0 : Int32))) (F_tl : Fld Z h0 a1 "java/util/ArrayDeque" "tail" "I" (.int k)) (F_el : Fld Z h0 a1 "java/util/ArrayDeque" "elements" "[Ljava/lang/Object;" (.ref b)) (O_b : own_Objs Z h0 b) :
    MetFree l (⟨"java/util/ArrayDeque", "size", "()I"⟩ : MethodName) (head1 (Jvm.Cond.code (⟨"java/util/ArrayDeque", "size", "()I"⟩ : MethodName) jdk_21_method_37_code 1 (some .int) :: ws) ({ frames := 1, cells := 0, slots := 0, locals := 14 } : Room)) (fun a U => a = #[(.ref a1)] ∧ Z.Warmed39 U.vm ∧ U.heap = h0) (fun _ _ _ _ _ => True) (fun _ U o U' => ∃ v L, o = .returned v ∧ Q7 Z a1 b k h0 n0 v U'.heap L ∧ FrameEnd U o U' L ({ frames := 1, cells := 0, slots := 0, locals := 14 } : Room).cells ({ frames := 1, cells := 0, slots := 0, locals := 14 } : Room).slots) := by
  refine MetFree.of_bodySF (plainFor_of_name pn_2) hisR ?_
  intro p e s m args below meth c s₁ Bd hml0 hP hK
  obtain ⟨rfl, hZ, hh⟩ := hP
  have hx := Bd.exec
  have hby := Bd.bytes
  have hml : c.maxLocals = 1 := hml0
  have hown : s.vm.findClass "java/util/ArrayDeque" = some m.cls := findClass_of_methodNamed Bd.named
  have hnm := (name_of_methodNamed Bd.named Bd.method).1
  have X0 : Stand p l e ({ frames := 1, cells := 0, slots := 0, locals := 14 } : Room) s m #[(.ref a1)] below meth c s₁ [] 0 0 := Stand.of_body Bd
  have e0 : s₁.heap = h0 := by rw [← hh, Bd.state]; rfl
  have N0 := Fr.nil n0
  have pre0 : ∀ t, Steps p.tables e below (s₁.setTop (mkF m 0 #[.val (.ref a1)] [])) t → Steps p.tables e below (s₁.setTop (entryFrame m #[(.ref a1)] 1)) t := fun t k => castTop (ef_7 m a1) k
  obtain ⟨cl, Ar, hsz, hov⟩ := O_b
  obtain ⟨T1, X1, e1, st1⟩ := getF X0 hx hZ hown (host := "") (Or.inl (hw _ (List.mem_of_getElem? (i := 48) rfl))) Via.refl e0 F_tl (g := (mkF m 1 #[.val (.ref a1)] [(.ref a1)])) rfl rfl (hb hby d7_1)
  obtain ⟨T2, X2, e2, st2⟩ := getF X1 hx hZ hown (host := "") (Or.inl (hw _ (List.mem_of_getElem? (i := 50) rfl))) Via.refl e1 F_hd (g := (mkF m 5 #[.val (.ref a1)] [(.ref a1), (.int k)])) rfl rfl (hb hby d7_5)
  obtain ⟨T3, X3, e3, st3⟩ := getF X2 hx hZ hown (host := "") (Or.inl (hw _ (List.mem_of_getElem? (i := 25) rfl))) Via.refl e2 F_el (g := (mkF m 9 #[.val (.ref a1)] [(.ref a1), (.int (0 : Int32)), (.int k)])) rfl rfl (hb hby d7_9)
  obtain ⟨_, _, ⟨T4, L4, k4, n4⟩, -, X4, ⟨Lc4, hQ4, l4, y4, z4⟩, st4⟩ := Jvm.LawKit.callS X3 hx (y := (⟨"java/util/ArrayDeque", "sub", "(III)I"⟩ : MethodName)) hown (mvT hZ (hw _ (List.mem_of_getElem? (i := 52) rfl))) (mvT hZ (hw _ (List.mem_of_getElem? (i := 53) rfl))) (mvT hZ (hw _ (List.mem_of_getElem? (i := 12) rfl))) (mvT hZ (hw _ (List.mem_of_getElem? (i := 54) rfl))) (by decide) (backOf (W := 0) (rm8 l Z a0 hw [] k (0 : Int32) (17 : Int32) h0 n0 Z0) hZ (hw _ (List.mem_of_getElem? (i := 54) rfl)) (hw _ (List.mem_of_getElem? (i := 12) rfl)) (by decide) (by decide)) (g := (mkF m 13 #[.val (.ref a1)] [(.int (17 : Int32)), (.int (0 : Int32)), (.int k)])) rfl (by rw [hml]; rfl) (argsL := [(.int k), (.int (0 : Int32)), (.int (17 : Int32))]) (rest := []) (lenOf pd_1 rfl) rfl (by show 2 * 0 + _ ≤ _; exact Nat.le_of_eq rfl) (hb hby d7_13) (fun _ _ => ⟨rfl, e3, (by decide : 0 + 0 ≤ _), (by decide : 0 + 0 ≤ _)⟩)
  dsimp only [Pt.U, Pt.locs, Pt.cells, Pt.slots] at X4 l4 y4 z4 st4 hQ4
  subst l4 y4 z4
  obtain ⟨rfl, N4q, e4⟩ := hQ4
  have N4 := Fr.app N0 N4q
  obtain ⟨fs, hr, hrun, hended, hW, hsame⟩ := X4.leave (v := some (.int (own_sub k (0 : Int32) (17 : Int32)))) (fun h => by rw [Bd.returns] at h; cases h)
  refine ⟨_, _, pre0 _ ?_, hrun, hended, _, _, rfl, ?_, ⟨_, rfl⟩, hW, hsame.mono (by decide) (by decide)⟩
  · show Steps p.tables e below (s₁.setTop (mkF m 0 #[.val (.ref a1)] [])) _
    refine XS.aloadN X0.here hx rfl (hb hby d7_0) rfl rfl ?_
    show Steps p.tables e below (s₁.setTop (mkF m 1 #[.val (.ref a1)] [(.ref a1)])) _
    refine st1 _ ?_
    show Steps p.tables e below (T1.setTop (mkF m 4 #[.val (.ref a1)] [(.int k)])) _
    refine XS.aloadN X1.here hx rfl (hb hby d7_4) rfl rfl ?_
    show Steps p.tables e below (T1.setTop (mkF m 5 #[.val (.ref a1)] [(.ref a1), (.int k)])) _
    refine st2 _ ?_
    show Steps p.tables e below (T2.setTop (mkF m 8 #[.val (.ref a1)] [(.int (0 : Int32)), (.int k)])) _
    refine XS.aloadN X2.here hx rfl (hb hby d7_8) rfl rfl ?_
    show Steps p.tables e below (T2.setTop (mkF m 9 #[.val (.ref a1)] [(.ref a1), (.int (0 : Int32)), (.int k)])) _
    refine st3 _ ?_
    show Steps p.tables e below (T3.setTop (mkF m 12 #[.val (.ref a1)] [(.ref b), (.int (0 : Int32)), (.int k)])) _
    refine X3.arraylength hx (by rw [e3]; exact Ar.1) (State.isArrayOf_alike hZ.alike Ar.2.1) (g := (mkF m 12 #[.val (.ref a1)] [(.ref b), (.int (0 : Int32)), (.int k)])) rfl rfl (hb hby d7_12) _ ?_
    rw [len_of (hsz.trans (by decide : 17 = (17 : Int32).toNatClampNeg)) (by decide)]
    show Steps p.tables e below (T3.setTop (mkF m 13 #[.val (.ref a1)] [(.int (17 : Int32)), (.int (0 : Int32)), (.int k)])) _
    refine st4 _ ?_
    show Steps p.tables e below (T4.setTop (mkF m 16 #[.val (.ref a1)] [(.int (own_sub k (0 : Int32) (17 : Int32)))])) _
    exact retI X4 hx Bd.returns (hb hby d7_16) hr
  · show Q7 Z a1 b k h0 n0 _ T4.heap _
    rw [e4]
    exact ⟨rfl, N4, rfl⟩

theorem d6_0 : decode prog_27_method_3_code 0 = .ok (.aload_n 0, 1) := by decide +kernel
theorem d6_1 : decode prog_27_method_3_code 1 = .ok (.aload_n 0, 1) := by decide +kernel
theorem d6_2 : decode prog_27_method_3_code 2 = .ok (.getfield 10, 3) := by decide +kernel
theorem pd_2 : parseMethodDescriptor "()I" = some ⟨[], some .int⟩ := by decide +kernel
theorem d6_5 : decode prog_27_method_3_code 5 = .ok (.invokevirtual 28, 3) := by decide +kernel
theorem d6_8 : decode prog_27_method_3_code 8 = .ok (.putfield 32, 3) := by decide +kernel
theorem d6_11 : decode prog_27_method_3_code 11 = .ok (.return_, 1) := by decide +kernel
theorem ef_6 (m : MethodId) (x0 : Addr) : entryFrame m #[(.ref x0)] 1 = mkF m 0 #[.val (.ref x0)] [] := by first | (simp [entryFrame, mkF, argsToLocals, Value.category]; done) | rfl
def Q6 (Z : State) (a1 : Addr) (d : Addr) (b : Addr) (k : Int32) (u : Value) (h0 : Heap) (n0 : Nat) (v : Option Value) (h : Heap) (L : List Loc) : Prop := v = none ∧ Fr n0 L ∧ Keep h0 h [a1] ∧ own_St Z h a1 d b k (.int (own_sub k (0 : Int32) (17 : Int32)))
set_option maxRecDepth 65536 in
set_option maxHeartbeats 40000000 in
theorem rm6 (l : Launch) (Z : State) (a0 : Array Value) (hw : ∀ d ∈ tables_1, d.before a0 Z = true) (ws : List Jvm.Cond) (a1 : Addr) (d : Addr) (b : Addr) (k : Int32) (u : Value) (h0 : Heap) (n0 : Nat) (Z0 : n0 ≤ h0.size) (g_a1 : n0 ≤ a1) (ne_ad : a1 ≠ d) (ne_ab : a1 ≠ b) (S0 : own_St Z h0 a1 d b k u) :
    MetFree l (⟨"com/example/grelo/grelo/WriteQueue", "flush", "()V"⟩ : MethodName) (head1 (Jvm.Cond.code (⟨"com/example/grelo/grelo/WriteQueue", "flush", "()V"⟩ : MethodName) prog_27_method_3_code 1 none :: ws) ({ frames := 2, cells := 0, slots := 0, locals := 27 } : Room)) (fun a U => a = #[(.ref a1)] ∧ Z.Warmed39 U.vm ∧ U.heap = h0) (fun _ _ _ _ _ => True) (fun _ U o U' => ∃ v L, o = .returned v ∧ Q6 Z a1 d b k u h0 n0 v U'.heap L ∧ FrameEnd U o U' L ({ frames := 2, cells := 0, slots := 0, locals := 27 } : Room).cells ({ frames := 2, cells := 0, slots := 0, locals := 27 } : Room).slots) := by
  refine MetFree.of_bodySF (plainFor_of_name pn_3) hisR ?_
  intro p e s m args below meth c s₁ Bd hml0 hP hK
  obtain ⟨rfl, hZ, hh⟩ := hP
  have hx := Bd.exec
  have hby := Bd.bytes
  have hml : c.maxLocals = 1 := hml0
  have hown : s.vm.findClass "com/example/grelo/grelo/WriteQueue" = some m.cls := findClass_of_methodNamed Bd.named
  have hnm := (name_of_methodNamed Bd.named Bd.method).1
  have X0 : Stand p l e ({ frames := 2, cells := 0, slots := 0, locals := 27 } : Room) s m #[(.ref a1)] below meth c s₁ [] 0 0 := Stand.of_body Bd
  have e0 : s₁.heap = h0 := by rw [← hh, Bd.state]; rfl
  have N0 := Fr.nil n0
  have pre0 : ∀ t, Steps p.tables e below (s₁.setTop (mkF m 0 #[.val (.ref a1)] [])) t → Steps p.tables e below (s₁.setTop (entryFrame m #[(.ref a1)] 1)) t := fun t k => castTop (ef_6 m a1) k
  obtain ⟨E_q, F_wr, F_fc, E_d, F_hd, F_tl, F_el, O_b⟩ := S0
  obtain ⟨T1, X1, e1, st1⟩ := getF X0 hx hZ hown (host := "") (Or.inl (hw _ (List.mem_of_getElem? (i := 27) rfl))) Via.refl e0 F_wr (g := (mkF m 2 #[.val (.ref a1)] [(.ref a1), (.ref a1)])) rfl rfl (hb hby d6_2)
  obtain ⟨cq2, kq2, q2a, q2b, q2c⟩ := isOf hZ e1 E_d
  obtain ⟨_, _, ⟨T2, L2, k2, n2⟩, -, X2, ⟨Lc2, hQ2, l2, y2, z2⟩, st2⟩ := X1.virtualBack hx (y := (⟨"java/util/ArrayDeque", "size", "()I"⟩ : MethodName)) (z := (⟨"java/util/ArrayDeque", "size", "()I"⟩ : MethodName)) hown (mvT hZ (hw _ (List.mem_of_getElem? (i := 43) rfl))) (mvT hZ (hw _ (List.mem_of_getElem? (i := 44) rfl))) (notFace_of_selects (args := #[]) (mvT hZ (hw _ (List.mem_of_getElem? (i := 46) rfl)))) (mvT hZ (hw _ (List.mem_of_getElem? (i := 46) rfl))) (mvT hZ (hw _ (List.mem_of_getElem? (i := 45) rfl))) (by decide) (backOf (W := 1) (rm7 l Z a0 hw [] d b k h0 n0 Z0 F_hd F_tl F_el O_b) hZ (hw _ (List.mem_of_getElem? (i := 47) rfl)) (hw _ (List.mem_of_getElem? (i := 12) rfl)) (by decide) (by decide)) q2a q2c (g := (mkF m 5 #[.val (.ref a1)] [(.ref d), (.ref a1)])) rfl (by rw [hml]; rfl) (Steps.refl _) (argsL := []) (rest := [(.ref a1)]) (lenOf pd_2 rfl) rfl (by show 2 * 0 + _ ≤ _; exact Nat.le_of_eq rfl) (hb hby d6_5) (fun _ _ => ⟨rfl, e1, (by decide : 0 + 0 ≤ _), (by decide : 0 + 0 ≤ _)⟩)
  dsimp only [Pt.U, Pt.locs, Pt.cells, Pt.slots] at X2 l2 y2 z2 st2 hQ2
  subst l2 y2 z2
  obtain ⟨rfl, N2q, e2⟩ := hQ2
  have N2 := Fr.app N0 N2q
  obtain ⟨T3, h3, X3, e3, W3, st3⟩ := putF X2 hx hZ hown (host := "") (Or.inl (hw _ (List.mem_of_getElem? (i := 36) rfl))) Via.refl e2 F_fc E_q (Or.inl (hw _ (List.mem_of_getElem? (i := 37) rfl))) (hw _ (List.mem_of_getElem? (i := 2) rfl)) (ty := .int) (by decide) rfl rfl (g := (mkF m 8 #[.val (.ref a1)] [(.int (own_sub k (0 : Int32) (17 : Int32))), (.ref a1)])) rfl rfl (hb hby d6_8)
  have Fw3 := F_fc.same W3
  have E_q_h3 := (E_q.wr W3)
  have F_wr_h3 := (F_wr.other W3 (Or.inr (slot_ne (Or.inr (hw _ (List.mem_of_getElem? (i := 28) rfl))) (Or.inl (hw _ (List.mem_of_getElem? (i := 37) rfl))) (by decide) (t := (.object "java/util/ArrayDeque")) (t' := .int) (by decide) (by decide))))
  have E_d_h3 := (E_d.wr W3)
  have F_h3 := (F_hd.other W3 (Or.inl (Ne.symm ne_ad)))
  have F_tl_h3 := (F_tl.other W3 (Or.inl (Ne.symm ne_ad)))
  have F_el_h3 := (F_el.other W3 (Or.inl (Ne.symm ne_ad)))
  have O_b_h3 := (O_b.other W3 (Ne.symm ne_ab))
  have Z3 := (Nat.le_trans Z0 (Keep.of_wr W3).1)
  have KK3 := (Keep.refl h0 [a1]).wr W3 (Or.inl (by simp))
  have N3 := Fr.snoc X3 N2 g_a1
  obtain ⟨fs, hr, hrun, hended, hW, hsame⟩ := X3.leave (v := none) (fun _ => rfl)
  refine ⟨_, _, pre0 _ ?_, hrun, hended, _, _, rfl, ?_, ⟨_, rfl⟩, hW, hsame.mono (by decide) (by decide)⟩
  · show Steps p.tables e below (s₁.setTop (mkF m 0 #[.val (.ref a1)] [])) _
    refine XS.aloadN X0.here hx rfl (hb hby d6_0) rfl rfl ?_
    show Steps p.tables e below (s₁.setTop (mkF m 1 #[.val (.ref a1)] [(.ref a1)])) _
    refine XS.aloadN X0.here hx rfl (hb hby d6_1) rfl rfl ?_
    show Steps p.tables e below (s₁.setTop (mkF m 2 #[.val (.ref a1)] [(.ref a1), (.ref a1)])) _
    refine st1 _ ?_
    show Steps p.tables e below (T1.setTop (mkF m 5 #[.val (.ref a1)] [(.ref d), (.ref a1)])) _
    refine st2.trans ?_
    show Steps p.tables e below (T2.setTop (mkF m 8 #[.val (.ref a1)] [(.int (own_sub k (0 : Int32) (17 : Int32))), (.ref a1)])) _
    refine st3 _ ?_
    show Steps p.tables e below (T3.setTop (mkF m 11 #[.val (.ref a1)] [])) _
    exact X3.returnOut hx Bd.returns (hb hby d6_11) hr
  · show Q6 Z a1 d b k u h0 n0 _ T3.heap _
    rw [e3]
    exact ⟨rfl, N3, KK3, ⟨E_q_h3, F_wr_h3, Fw3, E_d_h3, F_h3, F_tl_h3, F_el_h3, O_b_h3⟩⟩

theorem d10_0 : decode prog_28_method_1_code 0 = .ok (.aload_n 0, 1) := by decide +kernel
theorem d10_1 : decode prog_28_method_1_code 1 = .ok (.invokespecial 1, 3) := by decide +kernel
theorem d10_4 : decode prog_28_method_1_code 4 = .ok (.aload_n 0, 1) := by decide +kernel
theorem d10_5 : decode prog_28_method_1_code 5 = .ok (.aload_n 1, 1) := by decide +kernel
theorem d10_6 : decode prog_28_method_1_code 6 = .ok (.putfield 7, 3) := by decide +kernel
theorem d10_9 : decode prog_28_method_1_code 9 = .ok (.aload_n 0, 1) := by decide +kernel
theorem d10_10 : decode prog_28_method_1_code 10 = .ok (.iload_n 2, 1) := by decide +kernel
theorem d10_11 : decode prog_28_method_1_code 11 = .ok (.putfield 13, 3) := by decide +kernel
theorem d10_14 : decode prog_28_method_1_code 14 = .ok (.aload_n 0, 1) := by decide +kernel
theorem d10_15 : decode prog_28_method_1_code 15 = .ok (.iload_n 3, 1) := by decide +kernel
theorem d10_16 : decode prog_28_method_1_code 16 = .ok (.putfield 17, 3) := by decide +kernel
theorem d10_19 : decode prog_28_method_1_code 19 = .ok (.aload_n 0, 1) := by decide +kernel
theorem d10_20 : decode prog_28_method_1_code 20 = .ok (.aload 4, 2) := by decide +kernel
theorem d10_22 : decode prog_28_method_1_code 22 = .ok (.putfield 20, 3) := by decide +kernel
theorem d10_25 : decode prog_28_method_1_code 25 = .ok (.return_, 1) := by decide +kernel
theorem pn_4 : plainName "com/example/grelo/grelo/WriteQueue$Write" = true := by first | (simp [plainName, overriddenIn]; done) | decide +kernel
theorem ef_10 (m : MethodId) (x0 : Addr) (x2 : Int32) (x3 : Int32) : entryFrame m #[(.ref x0), .null, (.int x2), (.int x3), .null] 5 = mkF m 0 #[.val (.ref x0), .val .null, .val (.int x2), .val (.int x3), .val .null] [] := by first | (simp [entryFrame, mkF, argsToLocals, Value.category]; done) | rfl
def Q10 (Z : State) (a1 : Addr) (p3 : Int32) (p4 : Int32) (u0 : Value) (u1 : Value) (u2 : Value) (u3 : Value) (h0 : Heap) (n0 : Nat) (v : Option Value) (h : Heap) (L : List Loc) : Prop := v = none ∧ Fr n0 L ∧ Keep h0 h [a1] ∧ Exa Z h a1 "com/example/grelo/grelo/WriteQueue$Write"
set_option maxRecDepth 65536 in
set_option maxHeartbeats 40000000 in
theorem rm10 (l : Launch) (Z : State) (a0 : Array Value) (hw : ∀ d ∈ tables_1, d.before a0 Z = true) (ws : List Jvm.Cond) (a1 : Addr) (p3 : Int32) (p4 : Int32) (u0 : Value) (u1 : Value) (u2 : Value) (u3 : Value) (h0 : Heap) (n0 : Nat) (Z0 : n0 ≤ h0.size) (g_a1 : n0 ≤ a1) (E_a1 : Exa Z h0 a1 "com/example/grelo/grelo/WriteQueue$Write") (F_data : Fld Z h0 a1 "com/example/grelo/grelo/WriteQueue$Write" "data" "Ljava/nio/ByteBuffer;" u0) (F_next : Fld Z h0 a1 "com/example/grelo/grelo/WriteQueue$Write" "next" "I" u1) (F_end : Fld Z h0 a1 "com/example/grelo/grelo/WriteQueue$Write" "end" "I" u2) (F_written : Fld Z h0 a1 "com/example/grelo/grelo/WriteQueue$Write" "written" "Ljava/util/concurrent/CompletableFuture;" u3) :
    MetFree l (⟨"com/example/grelo/grelo/WriteQueue$Write", "<init>", "(Ljava/nio/ByteBuffer;IILjava/util/concurrent/CompletableFuture;)V"⟩ : MethodName) (head1 (Jvm.Cond.code (⟨"com/example/grelo/grelo/WriteQueue$Write", "<init>", "(Ljava/nio/ByteBuffer;IILjava/util/concurrent/CompletableFuture;)V"⟩ : MethodName) prog_28_method_1_code 5 none :: ws) ({ frames := 1, cells := 0, slots := 0, locals := 12 } : Room)) (fun a U => a = #[(.ref a1), .null, (.int p3), (.int p4), .null] ∧ Z.Warmed39 U.vm ∧ U.heap = h0) (fun _ _ _ _ _ => True) (fun _ U o U' => ∃ v L, o = .returned v ∧ Q10 Z a1 p3 p4 u0 u1 u2 u3 h0 n0 v U'.heap L ∧ FrameEnd U o U' L ({ frames := 1, cells := 0, slots := 0, locals := 12 } : Room).cells ({ frames := 1, cells := 0, slots := 0, locals := 12 } : Room).slots) := by
  refine MetFree.of_bodySF (plainFor_of_name pn_4) hisR ?_
  intro p e s m args below meth c s₁ Bd hml0 hP hK
  obtain ⟨rfl, hZ, hh⟩ := hP
  have hx := Bd.exec
  have hby := Bd.bytes
  have hml : c.maxLocals = 5 := hml0
  have hown : s.vm.findClass "com/example/grelo/grelo/WriteQueue$Write" = some m.cls := findClass_of_methodNamed Bd.named
  have hnm := (name_of_methodNamed Bd.named Bd.method).1
  have X0 : Stand p l e ({ frames := 1, cells := 0, slots := 0, locals := 12 } : Room) s m #[(.ref a1), .null, (.int p3), (.int p4), .null] below meth c s₁ [] 0 0 := Stand.of_body Bd
  have e0 : s₁.heap = h0 := by rw [← hh, Bd.state]; rfl
  have N0 := Fr.nil n0
  have pre0 : ∀ t, Steps p.tables e below (s₁.setTop (mkF m 0 #[.val (.ref a1), .val .null, .val (.int p3), .val (.int p4), .val .null] [])) t → Steps p.tables e below (s₁.setTop (entryFrame m #[(.ref a1), .null, (.int p3), (.int p4), .null] 5)) t := fun t k => castTop (ef_10 m a1 p3 p4) k
  obtain ⟨T1, X1, e1, st1⟩ := initO X0 hx hZ hown (hw _ (List.mem_of_getElem? (i := 66) rfl)) (hw _ (List.mem_of_getElem? (i := 8) rfl)) (hw _ (List.mem_of_getElem? (i := 9) rfl)) e0 (g := (mkF m 1 #[.val (.ref a1), .val .null, .val (.int p3), .val (.int p4), .val .null] [(.ref a1)])) rfl (by rw [hml]; rfl) rfl (hb hby d10_1) (by decide) (W := 0) (by show 2 * 0 + _ ≤ _; exact Nat.le_of_eq rfl) (by decide)
  obtain ⟨T2, h2, X2, e2, W2, st2⟩ := putF X1 hx hZ hown (host := "") (Or.inl (hw _ (List.mem_of_getElem? (i := 67) rfl))) Via.refl e1 F_data E_a1 (Or.inr ⟨(hw _ (List.mem_of_getElem? (i := 68) rfl)), rfl, hnm⟩) (hw _ (List.mem_of_getElem? (i := 61) rfl)) (ty := (.object "java/nio/ByteBuffer")) (by decide) rfl rfl (g := (mkF m 6 #[.val (.ref a1), .val .null, .val (.int p3), .val (.int p4), .val .null] [.null, (.ref a1)])) rfl rfl (hb hby d10_6)
  have Fw2 := F_data.same W2
  have E_a1_h2 := (E_a1.wr W2)
  have F_next_h2 := (F_next.other W2 (Or.inr (slot_ne (Or.inl (hw _ (List.mem_of_getElem? (i := 70) rfl))) (Or.inr (hw _ (List.mem_of_getElem? (i := 68) rfl))) (by decide) (t := .int) (t' := (.object "java/nio/ByteBuffer")) (by decide) (by decide))))
  have F_end_h2 := (F_end.other W2 (Or.inr (slot_ne (Or.inr (hw _ (List.mem_of_getElem? (i := 72) rfl))) (Or.inr (hw _ (List.mem_of_getElem? (i := 68) rfl))) (by decide) (t := .int) (t' := (.object "java/nio/ByteBuffer")) (by decide) (by decide))))
  have F_written_h2 := (F_written.other W2 (Or.inr (slot_ne (Or.inr (hw _ (List.mem_of_getElem? (i := 74) rfl))) (Or.inr (hw _ (List.mem_of_getElem? (i := 68) rfl))) (by decide) (t := (.object "java/util/concurrent/CompletableFuture")) (t' := (.object "java/nio/ByteBuffer")) (by decide) (by decide))))
  have Z2 := (Nat.le_trans Z0 (Keep.of_wr W2).1)
  have KK2 := (Keep.refl h0 [a1]).wr W2 (Or.inl (by simp))
  have N2 := Fr.snoc X2 N0 g_a1
  obtain ⟨T3, h3, X3, e3, W3, st3⟩ := putF X2 hx hZ hown (host := "") (Or.inl (hw _ (List.mem_of_getElem? (i := 69) rfl))) Via.refl e2 F_next_h2 E_a1_h2 (Or.inl (hw _ (List.mem_of_getElem? (i := 70) rfl))) (hw _ (List.mem_of_getElem? (i := 61) rfl)) (ty := .int) (by decide) rfl rfl (g := (mkF m 11 #[.val (.ref a1), .val .null, .val (.int p3), .val (.int p4), .val .null] [(.int p3), (.ref a1)])) rfl rfl (hb hby d10_11)
  have Fw3 := F_next_h2.same W3
  have E_a1_h3 := (E_a1_h2.wr W3)
  have Fw2_h3 := (Fw2.other W3 (Or.inr (slot_ne (Or.inr (hw _ (List.mem_of_getElem? (i := 68) rfl))) (Or.inl (hw _ (List.mem_of_getElem? (i := 70) rfl))) (by decide) (t := (.object "java/nio/ByteBuffer")) (t' := .int) (by decide) (by decide))))
  have F_end_h3 := (F_end_h2.other W3 (Or.inr (slot_ne (Or.inr (hw _ (List.mem_of_getElem? (i := 72) rfl))) (Or.inl (hw _ (List.mem_of_getElem? (i := 70) rfl))) (by decide) (t := .int) (t' := .int) (by decide) (by decide))))
  have F_written_h3 := (F_written_h2.other W3 (Or.inr (slot_ne (Or.inr (hw _ (List.mem_of_getElem? (i := 74) rfl))) (Or.inl (hw _ (List.mem_of_getElem? (i := 70) rfl))) (by decide) (t := (.object "java/util/concurrent/CompletableFuture")) (t' := .int) (by decide) (by decide))))
  have Z3 := (Nat.le_trans Z2 (Keep.of_wr W3).1)
  have KK3 := KK2.wr W3 (Or.inl (by simp))
  have N3 := Fr.snoc X3 N2 g_a1
  obtain ⟨T4, h4, X4, e4, W4, st4⟩ := putF X3 hx hZ hown (host := "") (Or.inl (hw _ (List.mem_of_getElem? (i := 71) rfl))) Via.refl e3 F_end_h3 E_a1_h3 (Or.inr ⟨(hw _ (List.mem_of_getElem? (i := 72) rfl)), rfl, hnm⟩) (hw _ (List.mem_of_getElem? (i := 61) rfl)) (ty := .int) (by decide) rfl rfl (g := (mkF m 16 #[.val (.ref a1), .val .null, .val (.int p3), .val (.int p4), .val .null] [(.int p4), (.ref a1)])) rfl rfl (hb hby d10_16)
  have Fw4 := F_end_h3.same W4
  have E_a1_h4 := (E_a1_h3.wr W4)
  have Fw2_h4 := (Fw2_h3.other W4 (Or.inr (slot_ne (Or.inr (hw _ (List.mem_of_getElem? (i := 68) rfl))) (Or.inr (hw _ (List.mem_of_getElem? (i := 72) rfl))) (by decide) (t := (.object "java/nio/ByteBuffer")) (t' := .int) (by decide) (by decide))))
  have Fw3_h4 := (Fw3.other W4 (Or.inr (slot_ne (Or.inl (hw _ (List.mem_of_getElem? (i := 70) rfl))) (Or.inr (hw _ (List.mem_of_getElem? (i := 72) rfl))) (by decide) (t := .int) (t' := .int) (by decide) (by decide))))
  have F_written_h4 := (F_written_h3.other W4 (Or.inr (slot_ne (Or.inr (hw _ (List.mem_of_getElem? (i := 74) rfl))) (Or.inr (hw _ (List.mem_of_getElem? (i := 72) rfl))) (by decide) (t := (.object "java/util/concurrent/CompletableFuture")) (t' := .int) (by decide) (by decide))))
  have Z4 := (Nat.le_trans Z3 (Keep.of_wr W4).1)
  have KK4 := KK3.wr W4 (Or.inl (by simp))
  have N4 := Fr.snoc X4 N3 g_a1
  obtain ⟨T5, h5, X5, e5, W5, st5⟩ := putF X4 hx hZ hown (host := "") (Or.inl (hw _ (List.mem_of_getElem? (i := 73) rfl))) Via.refl e4 F_written_h4 E_a1_h4 (Or.inr ⟨(hw _ (List.mem_of_getElem? (i := 74) rfl)), rfl, hnm⟩) (hw _ (List.mem_of_getElem? (i := 61) rfl)) (ty := (.object "java/util/concurrent/CompletableFuture")) (by decide) rfl rfl (g := (mkF m 22 #[.val (.ref a1), .val .null, .val (.int p3), .val (.int p4), .val .null] [.null, (.ref a1)])) rfl rfl (hb hby d10_22)
  have Fw5 := F_written_h4.same W5
  have E_a1_h5 := (E_a1_h4.wr W5)
  have Fw2_h5 := (Fw2_h4.other W5 (Or.inr (slot_ne (Or.inr (hw _ (List.mem_of_getElem? (i := 68) rfl))) (Or.inr (hw _ (List.mem_of_getElem? (i := 74) rfl))) (by decide) (t := (.object "java/nio/ByteBuffer")) (t' := (.object "java/util/concurrent/CompletableFuture")) (by decide) (by decide))))
  have Fw3_h5 := (Fw3_h4.other W5 (Or.inr (slot_ne (Or.inl (hw _ (List.mem_of_getElem? (i := 70) rfl))) (Or.inr (hw _ (List.mem_of_getElem? (i := 74) rfl))) (by decide) (t := .int) (t' := (.object "java/util/concurrent/CompletableFuture")) (by decide) (by decide))))
  have Fw4_h5 := (Fw4.other W5 (Or.inr (slot_ne (Or.inr (hw _ (List.mem_of_getElem? (i := 72) rfl))) (Or.inr (hw _ (List.mem_of_getElem? (i := 74) rfl))) (by decide) (t := .int) (t' := (.object "java/util/concurrent/CompletableFuture")) (by decide) (by decide))))
  have Z5 := (Nat.le_trans Z4 (Keep.of_wr W5).1)
  have KK5 := KK4.wr W5 (Or.inl (by simp))
  have N5 := Fr.snoc X5 N4 g_a1
  obtain ⟨fs, hr, hrun, hended, hW, hsame⟩ := X5.leave (v := none) (fun _ => rfl)
  refine ⟨_, _, pre0 _ ?_, hrun, hended, _, _, rfl, ?_, ⟨_, rfl⟩, hW, hsame.mono (by decide) (by decide)⟩
  · show Steps p.tables e below (s₁.setTop (mkF m 0 #[.val (.ref a1), .val .null, .val (.int p3), .val (.int p4), .val .null] [])) _
    refine XS.aloadN X0.here hx rfl (hb hby d10_0) rfl rfl ?_
    show Steps p.tables e below (s₁.setTop (mkF m 1 #[.val (.ref a1), .val .null, .val (.int p3), .val (.int p4), .val .null] [(.ref a1)])) _
    refine st1 _ ?_
    show Steps p.tables e below (T1.setTop (mkF m 4 #[.val (.ref a1), .val .null, .val (.int p3), .val (.int p4), .val .null] [])) _
    refine XS.aloadN X1.here hx rfl (hb hby d10_4) rfl rfl ?_
    show Steps p.tables e below (T1.setTop (mkF m 5 #[.val (.ref a1), .val .null, .val (.int p3), .val (.int p4), .val .null] [(.ref a1)])) _
    refine XS.aloadN X1.here hx rfl (hb hby d10_5) rfl rfl ?_
    show Steps p.tables e below (T1.setTop (mkF m 6 #[.val (.ref a1), .val .null, .val (.int p3), .val (.int p4), .val .null] [.null, (.ref a1)])) _
    refine st2 _ ?_
    show Steps p.tables e below (T2.setTop (mkF m 9 #[.val (.ref a1), .val .null, .val (.int p3), .val (.int p4), .val .null] [])) _
    refine XS.aloadN X2.here hx rfl (hb hby d10_9) rfl rfl ?_
    show Steps p.tables e below (T2.setTop (mkF m 10 #[.val (.ref a1), .val .null, .val (.int p3), .val (.int p4), .val .null] [(.ref a1)])) _
    refine XS.iloadN X2.here hx rfl (hb hby d10_10) rfl ?_
    show Steps p.tables e below (T2.setTop (mkF m 11 #[.val (.ref a1), .val .null, .val (.int p3), .val (.int p4), .val .null] [(.int p3), (.ref a1)])) _
    refine st3 _ ?_
    show Steps p.tables e below (T3.setTop (mkF m 14 #[.val (.ref a1), .val .null, .val (.int p3), .val (.int p4), .val .null] [])) _
    refine XS.aloadN X3.here hx rfl (hb hby d10_14) rfl rfl ?_
    show Steps p.tables e below (T3.setTop (mkF m 15 #[.val (.ref a1), .val .null, .val (.int p3), .val (.int p4), .val .null] [(.ref a1)])) _
    refine XS.iloadN X3.here hx rfl (hb hby d10_15) rfl ?_
    show Steps p.tables e below (T3.setTop (mkF m 16 #[.val (.ref a1), .val .null, .val (.int p3), .val (.int p4), .val .null] [(.int p4), (.ref a1)])) _
    refine st4 _ ?_
    show Steps p.tables e below (T4.setTop (mkF m 19 #[.val (.ref a1), .val .null, .val (.int p3), .val (.int p4), .val .null] [])) _
    refine XS.aloadN X4.here hx rfl (hb hby d10_19) rfl rfl ?_
    show Steps p.tables e below (T4.setTop (mkF m 20 #[.val (.ref a1), .val .null, .val (.int p3), .val (.int p4), .val .null] [(.ref a1)])) _
    refine XS.aload X4.here hx rfl (hb hby d10_20) rfl rfl ?_
    show Steps p.tables e below (T4.setTop (mkF m 22 #[.val (.ref a1), .val .null, .val (.int p3), .val (.int p4), .val .null] [.null, (.ref a1)])) _
    refine st5 _ ?_
    show Steps p.tables e below (T5.setTop (mkF m 25 #[.val (.ref a1), .val .null, .val (.int p3), .val (.int p4), .val .null] [])) _
    exact X5.returnOut hx Bd.returns (hb hby d10_25) hr
  · show Q10 Z a1 p3 p4 u0 u1 u2 u3 h0 n0 _ T5.heap _
    rw [e5]
    exact ⟨rfl, N5, KK5, E_a1_h5⟩

theorem d11_0 : decode jdk_21_method_13_code 0 = .ok (.aload_n 1, 1) := by decide +kernel
theorem d11_1 : decode jdk_21_method_13_code 1 = .ok (.ifnonnull 11, 3) := by decide +kernel
theorem d11_12 : decode jdk_21_method_13_code 12 = .ok (.aload_n 0, 1) := by decide +kernel
theorem d11_13 : decode jdk_21_method_13_code 13 = .ok (.getfield 3, 3) := by decide +kernel
theorem d11_16 : decode jdk_21_method_13_code 16 = .ok (.astore_n 2, 1) := by decide +kernel
theorem d11_17 : decode jdk_21_method_13_code 17 = .ok (.aload_n 2, 1) := by decide +kernel
theorem d11_18 : decode jdk_21_method_13_code 18 = .ok (.aload_n 0, 1) := by decide +kernel
theorem d11_19 : decode jdk_21_method_13_code 19 = .ok (.getfield 20, 3) := by decide +kernel
theorem d11_22 : decode jdk_21_method_13_code 22 = .ok (.aload_n 1, 1) := by decide +kernel
theorem d11_23 : decode jdk_21_method_13_code 23 = .ok (.aastore, 1) := by decide +kernel
theorem d11_24 : decode jdk_21_method_13_code 24 = .ok (.aload_n 0, 1) := by decide +kernel
theorem d11_25 : decode jdk_21_method_13_code 25 = .ok (.getfield 24, 3) := by decide +kernel
theorem d11_28 : decode jdk_21_method_13_code 28 = .ok (.aload_n 0, 1) := by decide +kernel
theorem d11_29 : decode jdk_21_method_13_code 29 = .ok (.aload_n 0, 1) := by decide +kernel
theorem d11_30 : decode jdk_21_method_13_code 30 = .ok (.getfield 20, 3) := by decide +kernel
theorem d11_33 : decode jdk_21_method_13_code 33 = .ok (.aload_n 2, 1) := by decide +kernel
theorem d11_34 : decode jdk_21_method_13_code 34 = .ok (.arraylength, 1) := by decide +kernel
theorem pd_3 : parseMethodDescriptor "(II)I" = some ⟨[.int, .int], some .int⟩ := by decide +kernel
theorem d11_35 : decode jdk_21_method_13_code 35 = .ok (.invokestatic 74, 3) := by decide +kernel
theorem d11_38 : decode jdk_21_method_13_code 38 = .ok (.dup_x1, 1) := by decide +kernel
theorem d11_39 : decode jdk_21_method_13_code 39 = .ok (.putfield 20, 3) := by decide +kernel
theorem d11_42 : decode jdk_21_method_13_code 42 = .ok (.if_icmp .ne 8, 3) := by decide +kernel
theorem d11_50 : decode jdk_21_method_13_code 50 = .ok (.return_, 1) := by decide +kernel
theorem ef_11 (m : MethodId) (x0 : Addr) (x1 : Addr) : entryFrame m #[(.ref x0), (.ref x1)] 3 = mkF m 0 #[.val (.ref x0), .val (.ref x1), .unset] [] := by first | (simp [entryFrame, mkF, argsToLocals, Value.category]; done) | rfl
def Q11 (Z : State) (a1 : Addr) (a2 : Addr) (b : Addr) (k : Int32) (h0 : Heap) (n0 : Nat) (v : Option Value) (h : Heap) (L : List Loc) : Prop := v = none ∧ Fr n0 L ∧ Keep h0 h [a1, b] ∧ Exa Z h a1 "java/util/ArrayDeque" ∧ Fld Z h a1 "java/util/ArrayDeque" "head" "I" (.int (0 : Int32)) ∧ Fld Z h a1 "java/util/ArrayDeque" "tail" "I" (.int (own_inc k (17 : Int32))) ∧ Fld Z h a1 "java/util/ArrayDeque" "elements" "[Ljava/lang/Object;" (.ref b) ∧ own_Objs Z h b
set_option maxRecDepth 65536 in
set_option maxHeartbeats 40000000 in
theorem rm11 (l : Launch) (Z : State) (a0 : Array Value) (hw : ∀ d ∈ tables_1, d.before a0 Z = true) (ws : List Jvm.Cond) (a1 : Addr) (a2 : Addr) (b : Addr) (k : Int32) (h0 : Heap) (n0 : Nat) (Z0 : n0 ≤ h0.size) (g_a1 : n0 ≤ a1) (g_b : n0 ≤ b) (ne_ab : a1 ≠ b) (E_a1 : Exa Z h0 a1 "java/util/ArrayDeque") (F_hd : Fld Z h0 a1 "java/util/ArrayDeque" "head" "I" (.int (0 : Int32))) (F_tl : Fld Z h0 a1 "java/util/ArrayDeque" "tail" "I" (.int k)) (F_el : Fld Z h0 a1 "java/util/ArrayDeque" "elements" "[Ljava/lang/Object;" (.ref b)) (O_b : own_Objs Z h0 b) (E_a2 : Exa Z h0 a2 "com/example/grelo/grelo/WriteQueue$Write") (hk0 : 0 ≤ k.toInt) (hk1 : k.toInt ≤ 10) :
    MetFree l (⟨"java/util/ArrayDeque", "addLast", "(Ljava/lang/Object;)V"⟩ : MethodName) (head1 (Jvm.Cond.code (⟨"java/util/ArrayDeque", "addLast", "(Ljava/lang/Object;)V"⟩ : MethodName) jdk_21_method_13_code 3 none :: ws) ({ frames := 1, cells := 0, slots := 0, locals := 15 } : Room)) (fun a U => a = #[(.ref a1), (.ref a2)] ∧ Z.Warmed39 U.vm ∧ U.heap = h0) (fun _ _ _ _ _ => True) (fun _ U o U' => ∃ v L, o = .returned v ∧ Q11 Z a1 a2 b k h0 n0 v U'.heap L ∧ FrameEnd U o U' L ({ frames := 1, cells := 0, slots := 0, locals := 15 } : Room).cells ({ frames := 1, cells := 0, slots := 0, locals := 15 } : Room).slots) := by
  refine MetFree.of_bodySF (plainFor_of_name pn_2) hisR ?_
  intro p e s m args below meth c s₁ Bd hml0 hP hK
  obtain ⟨rfl, hZ, hh⟩ := hP
  have hx := Bd.exec
  have hby := Bd.bytes
  have hml : c.maxLocals = 3 := hml0
  have hown : s.vm.findClass "java/util/ArrayDeque" = some m.cls := findClass_of_methodNamed Bd.named
  have hnm := (name_of_methodNamed Bd.named Bd.method).1
  have X0 : Stand p l e ({ frames := 1, cells := 0, slots := 0, locals := 15 } : Room) s m #[(.ref a1), (.ref a2)] below meth c s₁ [] 0 0 := Stand.of_body Bd
  have e0 : s₁.heap = h0 := by rw [← hh, Bd.state]; rfl
  have N0 := Fr.nil n0
  have pre0 : ∀ t, Steps p.tables e below (s₁.setTop (mkF m 0 #[.val (.ref a1), .val (.ref a2), .unset] [])) t → Steps p.tables e below (s₁.setTop (entryFrame m #[(.ref a1), (.ref a2)] 3)) t := fun t k => castTop (ef_11 m a1 a2) k
  obtain ⟨cl, Ar, hsz, hov⟩ := O_b
  have Sto0 := Sto.of Ar hov (Ins.of_exa E_a2 (hw _ (List.mem_of_getElem? (i := 80) rfl)))
  obtain ⟨T1, X1, e1, st1⟩ := getF X0 hx hZ hown (host := "") (Or.inl (hw _ (List.mem_of_getElem? (i := 25) rfl))) Via.refl e0 F_el (g := (mkF m 13 #[.val (.ref a1), .val (.ref a2), .unset] [(.ref a1)])) rfl rfl (hb hby d11_13)
  obtain ⟨T2, X2, e2, st2⟩ := getF X1 hx hZ hown (host := "") (Or.inl (hw _ (List.mem_of_getElem? (i := 48) rfl))) Via.refl e1 F_tl (g := (mkF m 19 #[.val (.ref a1), .val (.ref a2), .val (.ref b)] [(.ref a1), (.ref b)])) rfl rfl (hb hby d11_19)
  obtain ⟨T3, h3, X3, e3, W3, st3⟩ := stR X2 hx hZ e2 Ar (j := k) (own_in hsz hk0 (by omega)) rfl Sto0 (g := (mkF m 23 #[.val (.ref a1), .val (.ref a2), .val (.ref b)] [(.ref a2), (.int k), (.ref b)])) rfl rfl (hb hby d11_23)
  have E_a1_h3 := (E_a1.wr W3)
  have F_h3 := (F_hd.other W3 (Or.inl ne_ab))
  have F_tl_h3 := (F_tl.other W3 (Or.inl ne_ab))
  have F_el_h3 := (F_el.other W3 (Or.inl ne_ab))
  have Z3 := (Nat.le_trans Z0 (Keep.of_wr W3).1)
  have KK3 := (Keep.refl h0 [a1, b]).wr W3 (Or.inl (by simp))
  have N3 := Fr.snoc X3 N0 g_b
  have O_b' := own_Objs.set Ar hsz hov W3
  obtain ⟨cl', Ar', hsz', hov'⟩ := O_b'
  obtain ⟨T4, X4, e4, st4⟩ := getF X3 hx hZ hown (host := "") (Or.inl (hw _ (List.mem_of_getElem? (i := 50) rfl))) Via.refl e3 F_h3 (g := (mkF m 25 #[.val (.ref a1), .val (.ref a2), .val (.ref b)] [(.ref a1)])) rfl rfl (hb hby d11_25)
  obtain ⟨T5, X5, e5, st5⟩ := getF X4 hx hZ hown (host := "") (Or.inl (hw _ (List.mem_of_getElem? (i := 48) rfl))) Via.refl e4 F_tl_h3 (g := (mkF m 30 #[.val (.ref a1), .val (.ref a2), .val (.ref b)] [(.ref a1), (.ref a1), (.int (0 : Int32))])) rfl rfl (hb hby d11_30)
  have O_b2 : own_Objs Z h3 b := ⟨cl', Ar', hsz', hov'⟩
  obtain ⟨_, _, ⟨T6, L6, k6, n6⟩, -, X6, ⟨Lc6, hQ6, l6, y6, z6⟩, st6⟩ := Jvm.LawKit.callS X5 hx (y := (⟨"java/util/ArrayDeque", "inc", "(II)I"⟩ : MethodName)) hown (mvT hZ (hw _ (List.mem_of_getElem? (i := 81) rfl))) (mvT hZ (hw _ (List.mem_of_getElem? (i := 82) rfl))) (mvT hZ (hw _ (List.mem_of_getElem? (i := 12) rfl))) (mvT hZ (hw _ (List.mem_of_getElem? (i := 83) rfl))) (by decide) (backOf (W := 2) (rm12 l Z a0 hw [] k (17 : Int32) h3 n0 Z3) hZ (hw _ (List.mem_of_getElem? (i := 83) rfl)) (hw _ (List.mem_of_getElem? (i := 12) rfl)) (by decide) (by decide)) (g := (mkF m 35 #[.val (.ref a1), .val (.ref a2), .val (.ref b)] [(.int (17 : Int32)), (.int k), (.ref a1), (.int (0 : Int32))])) rfl (by rw [hml]; rfl) (argsL := [(.int k), (.int (17 : Int32))]) (rest := [(.ref a1), (.int (0 : Int32))]) (lenOf pd_3 rfl) rfl (by show 2 * 0 + _ ≤ _; exact Nat.le_of_eq rfl) (hb hby d11_35) (fun _ _ => ⟨rfl, e5, (by decide : 0 + 0 ≤ _), (by decide : 0 + 0 ≤ _)⟩)
  dsimp only [Pt.U, Pt.locs, Pt.cells, Pt.slots] at X6 l6 y6 z6 st6 hQ6
  subst l6 y6 z6
  obtain ⟨rfl, N6q, e6⟩ := hQ6
  have N6 := Fr.app N3 N6q
  obtain ⟨T7, h7, X7, e7, W7, st7⟩ := putF X6 hx hZ hown (host := "") (Or.inl (hw _ (List.mem_of_getElem? (i := 48) rfl))) Via.refl e6 F_tl_h3 E_a1_h3 (Or.inl (hw _ (List.mem_of_getElem? (i := 49) rfl))) (hw _ (List.mem_of_getElem? (i := 11) rfl)) (ty := .int) (by decide) rfl rfl (g := (mkF m 39 #[.val (.ref a1), .val (.ref a2), .val (.ref b)] [(.int (own_inc k (17 : Int32))), (.ref a1), (.int (own_inc k (17 : Int32))), (.int (0 : Int32))])) rfl rfl (hb hby d11_39)
  have Fw7 := F_tl_h3.same W7
  have E_a1_h7 := (E_a1_h3.wr W7)
  have F_h7 := (F_h3.other W7 (Or.inr (slot_ne (Or.inl (hw _ (List.mem_of_getElem? (i := 51) rfl))) (Or.inl (hw _ (List.mem_of_getElem? (i := 49) rfl))) (by decide) (t := .int) (t' := .int) (by decide) (by decide))))
  have F_el_h7 := (F_el_h3.other W7 (Or.inr (slot_ne (Or.inl (hw _ (List.mem_of_getElem? (i := 26) rfl))) (Or.inl (hw _ (List.mem_of_getElem? (i := 49) rfl))) (by decide) (t := (.array (.object "java/lang/Object"))) (t' := .int) (by decide) (by decide))))
  have O_b2_h7 := (O_b2.other W7 (Ne.symm ne_ab))
  have Z7 := (Nat.le_trans Z3 (Keep.of_wr W7).1)
  have KK7 := KK3.wr W7 (Or.inl (by simp))
  have N7 := Fr.snoc X7 N6 g_a1
  obtain ⟨fs, hr, hrun, hended, hW, hsame⟩ := X7.leave (v := none) (fun _ => rfl)
  refine ⟨_, _, pre0 _ ?_, hrun, hended, _, _, rfl, ?_, ⟨_, rfl⟩, hW, hsame.mono (by decide) (by decide)⟩
  · show Steps p.tables e below (s₁.setTop (mkF m 0 #[.val (.ref a1), .val (.ref a2), .unset] [])) _
    refine XS.aloadN X0.here hx rfl (hb hby d11_0) rfl rfl ?_
    show Steps p.tables e below (s₁.setTop (mkF m 1 #[.val (.ref a1), .val (.ref a2), .unset] [(.ref a2)])) _
    refine XS.ifnonnullYes X0.here hx rfl (pc0 := 1) (pc' := 12) rfl (hb hby d11_1) rfl (by decide) (by decide) ?_
    show Steps p.tables e below (s₁.setTop (mkF m 12 #[.val (.ref a1), .val (.ref a2), .unset] [])) _
    refine XS.aloadN X0.here hx rfl (hb hby d11_12) rfl rfl ?_
    show Steps p.tables e below (s₁.setTop (mkF m 13 #[.val (.ref a1), .val (.ref a2), .unset] [(.ref a1)])) _
    refine st1 _ ?_
    show Steps p.tables e below (T1.setTop (mkF m 16 #[.val (.ref a1), .val (.ref a2), .unset] [(.ref b)])) _
    refine XS.astoreN X1.here hx rfl (hb hby d11_16) rfl rfl (l' := #[.val (.ref a1), .val (.ref a2), .val (.ref b)]) rfl ?_
    show Steps p.tables e below (T1.setTop (mkF m 17 #[.val (.ref a1), .val (.ref a2), .val (.ref b)] [])) _
    refine XS.aloadN X1.here hx rfl (hb hby d11_17) rfl rfl ?_
    show Steps p.tables e below (T1.setTop (mkF m 18 #[.val (.ref a1), .val (.ref a2), .val (.ref b)] [(.ref b)])) _
    refine XS.aloadN X1.here hx rfl (hb hby d11_18) rfl rfl ?_
    show Steps p.tables e below (T1.setTop (mkF m 19 #[.val (.ref a1), .val (.ref a2), .val (.ref b)] [(.ref a1), (.ref b)])) _
    refine st2 _ ?_
    show Steps p.tables e below (T2.setTop (mkF m 22 #[.val (.ref a1), .val (.ref a2), .val (.ref b)] [(.int k), (.ref b)])) _
    refine XS.aloadN X2.here hx rfl (hb hby d11_22) rfl rfl ?_
    show Steps p.tables e below (T2.setTop (mkF m 23 #[.val (.ref a1), .val (.ref a2), .val (.ref b)] [(.ref a2), (.int k), (.ref b)])) _
    refine st3 _ ?_
    show Steps p.tables e below (T3.setTop (mkF m 24 #[.val (.ref a1), .val (.ref a2), .val (.ref b)] [])) _
    refine XS.aloadN X3.here hx rfl (hb hby d11_24) rfl rfl ?_
    show Steps p.tables e below (T3.setTop (mkF m 25 #[.val (.ref a1), .val (.ref a2), .val (.ref b)] [(.ref a1)])) _
    refine st4 _ ?_
    show Steps p.tables e below (T4.setTop (mkF m 28 #[.val (.ref a1), .val (.ref a2), .val (.ref b)] [(.int (0 : Int32))])) _
    refine XS.aloadN X4.here hx rfl (hb hby d11_28) rfl rfl ?_
    show Steps p.tables e below (T4.setTop (mkF m 29 #[.val (.ref a1), .val (.ref a2), .val (.ref b)] [(.ref a1), (.int (0 : Int32))])) _
    refine XS.aloadN X4.here hx rfl (hb hby d11_29) rfl rfl ?_
    show Steps p.tables e below (T4.setTop (mkF m 30 #[.val (.ref a1), .val (.ref a2), .val (.ref b)] [(.ref a1), (.ref a1), (.int (0 : Int32))])) _
    refine st5 _ ?_
    show Steps p.tables e below (T5.setTop (mkF m 33 #[.val (.ref a1), .val (.ref a2), .val (.ref b)] [(.int k), (.ref a1), (.int (0 : Int32))])) _
    refine XS.aloadN X5.here hx rfl (hb hby d11_33) rfl rfl ?_
    show Steps p.tables e below (T5.setTop (mkF m 34 #[.val (.ref a1), .val (.ref a2), .val (.ref b)] [(.ref b), (.int k), (.ref a1), (.int (0 : Int32))])) _
    refine X5.arraylength hx (by rw [e5]; exact Ar'.1) (State.isArrayOf_alike hZ.alike Ar'.2.1) (g := (mkF m 34 #[.val (.ref a1), .val (.ref a2), .val (.ref b)] [(.ref b), (.int k), (.ref a1), (.int (0 : Int32))])) rfl rfl (hb hby d11_34) _ ?_
    rw [len_of (hsz'.trans (by decide : 17 = (17 : Int32).toNatClampNeg)) (by decide)]
    show Steps p.tables e below (T5.setTop (mkF m 35 #[.val (.ref a1), .val (.ref a2), .val (.ref b)] [(.int (17 : Int32)), (.int k), (.ref a1), (.int (0 : Int32))])) _
    refine st6 _ ?_
    show Steps p.tables e below (T6.setTop (mkF m 38 #[.val (.ref a1), .val (.ref a2), .val (.ref b)] [(.int (own_inc k (17 : Int32))), (.ref a1), (.int (0 : Int32))])) _
    refine XS.dupX1 X6.here hx rfl (hb hby d11_38) rfl rfl rfl ?_
    show Steps p.tables e below (T6.setTop (mkF m 39 #[.val (.ref a1), .val (.ref a2), .val (.ref b)] [(.int (own_inc k (17 : Int32))), (.ref a1), (.int (own_inc k (17 : Int32))), (.int (0 : Int32))])) _
    refine st7 _ ?_
    show Steps p.tables e below (T7.setTop (mkF m 42 #[.val (.ref a1), .val (.ref a2), .val (.ref b)] [(.int (own_inc k (17 : Int32))), (.int (0 : Int32))])) _
    refine XS.icmpYes X7.here hx rfl (pc0 := 42) (pc' := 50) rfl (hb hby d11_42) rfl (feq (own_incne hk0 hk1 : ¬ ((0 : Int32) = (own_inc k (17 : Int32))))).2 (by decide) (by decide) ?_
    show Steps p.tables e below (T7.setTop (mkF m 50 #[.val (.ref a1), .val (.ref a2), .val (.ref b)] [])) _
    exact X7.returnOut hx Bd.returns (hb hby d11_50) hr
  · show Q11 Z a1 a2 b k h0 n0 _ T7.heap _
    rw [e7]
    exact ⟨rfl, N7, KK7, E_a1_h7, F_h7, Fw7, F_el_h7, O_b2_h7⟩

theorem d9_0 : decode prog_27_method_2_code 0 = .ok (.aload_n 0, 1) := by decide +kernel
theorem d9_1 : decode prog_27_method_2_code 1 = .ok (.getfield 10, 3) := by decide +kernel
theorem d9_4 : decode prog_27_method_2_code 4 = .ok (.new 19, 3) := by decide +kernel
theorem d9_7 : decode prog_27_method_2_code 7 = .ok (.dup, 1) := by decide +kernel
theorem d9_8 : decode prog_27_method_2_code 8 = .ok (.aload_n 1, 1) := by decide +kernel
theorem d9_9 : decode prog_27_method_2_code 9 = .ok (.iload_n 2, 1) := by decide +kernel
theorem d9_10 : decode prog_27_method_2_code 10 = .ok (.iload_n 3, 1) := by decide +kernel
theorem d9_11 : decode prog_27_method_2_code 11 = .ok (.aload 4, 2) := by decide +kernel
theorem pd_4 : parseMethodDescriptor "(Ljava/nio/ByteBuffer;IILjava/util/concurrent/CompletableFuture;)V" = some ⟨[(.object "java/nio/ByteBuffer"), .int, .int, (.object "java/util/concurrent/CompletableFuture")], none⟩ := by decide +kernel
theorem d9_13 : decode prog_27_method_2_code 13 = .ok (.invokespecial 21, 3) := by decide +kernel
theorem pd_5 : parseMethodDescriptor "(Ljava/lang/Object;)V" = some ⟨[(.object "java/lang/Object")], none⟩ := by decide +kernel
theorem d9_16 : decode prog_27_method_2_code 16 = .ok (.invokevirtual 24, 3) := by decide +kernel
theorem d9_19 : decode prog_27_method_2_code 19 = .ok (.return_, 1) := by decide +kernel
theorem ef_9 (m : MethodId) (x0 : Addr) (x2 : Int32) (x3 : Int32) : entryFrame m #[(.ref x0), .null, (.int x2), (.int x3), .null] 5 = mkF m 0 #[.val (.ref x0), .val .null, .val (.int x2), .val (.int x3), .val .null] [] := by first | (simp [entryFrame, mkF, argsToLocals, Value.category]; done) | rfl
def Q9 (Z : State) (a1 : Addr) (p3 : Int32) (p4 : Int32) (d : Addr) (b : Addr) (k : Int32) (u : Value) (h0 : Heap) (n0 : Nat) (v : Option Value) (h : Heap) (L : List Loc) : Prop := v = none ∧ Fr n0 L ∧ Keep h0 h [d, b] ∧ own_St Z h a1 d b (own_inc k (17 : Int32)) u
set_option maxRecDepth 65536 in
set_option maxHeartbeats 40000000 in
theorem rm9 (l : Launch) (Z : State) (a0 : Array Value) (hw : ∀ d ∈ tables_1, d.before a0 Z = true) (ws : List Jvm.Cond) (a1 : Addr) (p3 : Int32) (p4 : Int32) (d : Addr) (b : Addr) (k : Int32) (u : Value) (h0 : Heap) (n0 : Nat) (Z0 : n0 ≤ h0.size) (g_d : n0 ≤ d) (g_b : n0 ≤ b) (ne_ad : a1 ≠ d) (ne_ab : a1 ≠ b) (ne_db : d ≠ b) (S0 : own_St Z h0 a1 d b k u) (hk0 : 0 ≤ k.toInt) (hk1 : k.toInt ≤ 10) :
    MetFree l (⟨"com/example/grelo/grelo/WriteQueue", "add", "(Ljava/nio/ByteBuffer;IILjava/util/concurrent/CompletableFuture;)V"⟩ : MethodName) (head1 (Jvm.Cond.code (⟨"com/example/grelo/grelo/WriteQueue", "add", "(Ljava/nio/ByteBuffer;IILjava/util/concurrent/CompletableFuture;)V"⟩ : MethodName) prog_27_method_2_code 5 none :: ws) ({ frames := 2, cells := 1, slots := 4, locals := 30 } : Room)) (fun a U => a = #[(.ref a1), .null, (.int p3), (.int p4), .null] ∧ Z.Warmed39 U.vm ∧ U.heap = h0) (fun _ _ _ _ _ => True) (fun _ U o U' => ∃ v L, o = .returned v ∧ Q9 Z a1 p3 p4 d b k u h0 n0 v U'.heap L ∧ FrameEnd U o U' L ({ frames := 2, cells := 1, slots := 4, locals := 30 } : Room).cells ({ frames := 2, cells := 1, slots := 4, locals := 30 } : Room).slots) := by
  refine MetFree.of_bodySF (plainFor_of_name pn_3) hisR ?_
  intro p e s m args below meth c s₁ Bd hml0 hP hK
  obtain ⟨rfl, hZ, hh⟩ := hP
  have hx := Bd.exec
  have hby := Bd.bytes
  have hml : c.maxLocals = 5 := hml0
  have hown : s.vm.findClass "com/example/grelo/grelo/WriteQueue" = some m.cls := findClass_of_methodNamed Bd.named
  have hnm := (name_of_methodNamed Bd.named Bd.method).1
  have X0 : Stand p l e ({ frames := 2, cells := 1, slots := 4, locals := 30 } : Room) s m #[(.ref a1), .null, (.int p3), (.int p4), .null] below meth c s₁ [] 0 0 := Stand.of_body Bd
  have e0 : s₁.heap = h0 := by rw [← hh, Bd.state]; rfl
  have N0 := Fr.nil n0
  have pre0 : ∀ t, Steps p.tables e below (s₁.setTop (mkF m 0 #[.val (.ref a1), .val .null, .val (.int p3), .val (.int p4), .val .null] [])) t → Steps p.tables e below (s₁.setTop (entryFrame m #[(.ref a1), .null, (.int p3), (.int p4), .null] 5)) t := fun t k => castTop (ef_9 m a1 p3 p4) k
  obtain ⟨E_q, F_wr, F_fc, E_d, F_hd, F_tl, F_el, O_b⟩ := S0
  obtain ⟨T1, X1, e1, st1⟩ := getF X0 hx hZ hown (host := "") (Or.inl (hw _ (List.mem_of_getElem? (i := 27) rfl))) Via.refl e0 F_wr (g := (mkF m 1 #[.val (.ref a1), .val .null, .val (.int p3), .val (.int p4), .val .null] [(.ref a1)])) rfl rfl (hb hby d9_1)
  obtain ⟨T2, h2, X2, e2, E2, A2, D2, -, st2⟩ := newO X1 hx hZ hown (hw _ (List.mem_of_getElem? (i := 60) rfl)) (hw _ (List.mem_of_getElem? (i := 61) rfl)) (hw _ (List.mem_of_getElem? (i := 62) rfl)) e1 (g := (mkF m 4 #[.val (.ref a1), .val .null, .val (.int p3), .val (.int p4), .val .null] [(.ref d)])) rfl (hb hby d9_4) (by decide) (by decide)
  obtain ⟨o, g2⟩ : ∃ z, z = h0.size := ⟨_, rfl⟩
  rw [← g2] at A2 D2 st2
  have g_o : n0 ≤ o := Nat.le_trans Z0 (Nat.le_of_eq g2.symm)
  have sz_o : h0.size ≤ o := Nat.le_trans (Keep.refl h0 [d, b]).1 (Nat.le_of_eq g2.symm)
  have ne_a1_o : a1 ≠ o := Nat.ne_of_lt (Nat.lt_of_lt_of_le E_q.lt (Nat.le_of_eq g2.symm))
  have ne_d_o : d ≠ o := Nat.ne_of_lt (Nat.lt_of_lt_of_le E_d.lt (Nat.le_of_eq g2.symm))
  have ne_b_o : b ≠ o := Nat.ne_of_lt (Nat.lt_of_lt_of_le O_b.lt (Nat.le_of_eq g2.symm))
  have E_q_h2 := (E_q.ext E2)
  have F_wr_h2 := (F_wr.ext E2)
  have F_fc_h2 := (F_fc.ext E2)
  have E_d_h2 := (E_d.ext E2)
  have F_h2 := (F_hd.ext E2)
  have F_tl_h2 := (F_tl.ext E2)
  have F_el_h2 := (F_el.ext E2)
  have O_b_h2 := (O_b.ext E2)
  have Z2 := (Nat.le_trans Z0 E2.1)
  have KK2 := (Keep.refl h0 [d, b]).ext E2
  have F_data_o : Fld Z h2 o "com/example/grelo/grelo/WriteQueue$Write" "data" "Ljava/nio/ByteBuffer;" .null := D2 (Or.inr (hw _ (List.mem_of_getElem? (i := 68) rfl))) (ty := (.object "java/nio/ByteBuffer")) (by decide)
  have F_next_o : Fld Z h2 o "com/example/grelo/grelo/WriteQueue$Write" "next" "I" (.int (0 : Int32)) := D2 (Or.inl (hw _ (List.mem_of_getElem? (i := 70) rfl))) (ty := .int) (by decide)
  have F_end_o : Fld Z h2 o "com/example/grelo/grelo/WriteQueue$Write" "end" "I" (.int (0 : Int32)) := D2 (Or.inr (hw _ (List.mem_of_getElem? (i := 72) rfl))) (ty := .int) (by decide)
  have F_written_o : Fld Z h2 o "com/example/grelo/grelo/WriteQueue$Write" "written" "Ljava/util/concurrent/CompletableFuture;" .null := D2 (Or.inr (hw _ (List.mem_of_getElem? (i := 74) rfl))) (ty := (.object "java/util/concurrent/CompletableFuture")) (by decide)
  obtain ⟨_, _, ⟨T3, L3, k3, n3⟩, -, X3, ⟨Lc3, hQ3, l3, y3, z3⟩, st3⟩ := X2.specialBack hx (y := (⟨"com/example/grelo/grelo/WriteQueue$Write", "<init>", "(Ljava/nio/ByteBuffer;IILjava/util/concurrent/CompletableFuture;)V"⟩ : MethodName)) rfl hown (mvT hZ (hw _ (List.mem_of_getElem? (i := 63) rfl))) (mvT hZ (hw _ (List.mem_of_getElem? (i := 64) rfl))) (mvT hZ (hw _ (List.mem_of_getElem? (i := 65) rfl))) (by decide) (backOf (W := 2) (rm10 l Z a0 hw [] o p3 p4 .null (.int (0 : Int32)) (.int (0 : Int32)) .null h2 n0 Z2 g_o A2 F_data_o F_next_o F_end_o F_written_o) hZ (hw _ (List.mem_of_getElem? (i := 65) rfl)) (hw _ (List.mem_of_getElem? (i := 62) rfl)) (by decide) (by decide)) (g := (mkF m 13 #[.val (.ref a1), .val .null, .val (.int p3), .val (.int p4), .val .null] [.null, (.int p4), (.int p3), .null, (.ref o), (.ref o), (.ref d)])) rfl (by rw [hml]; rfl) (Steps.refl _) (a := o) (argsL := [.null, (.int p3), (.int p4), .null]) (rest := [(.ref o), (.ref d)]) (lenOf pd_4 rfl) rfl (by show 2 * 0 + _ ≤ _; exact Nat.le_of_eq rfl) (hb hby d9_13) (fun _ _ => ⟨rfl, e2, (by decide : 1 + 0 ≤ _), (by decide : 4 + 0 ≤ _)⟩)
  dsimp only [Pt.U, Pt.locs, Pt.cells, Pt.slots] at X3 l3 y3 z3 st3 hQ3
  subst l3 y3 z3
  obtain ⟨rfl, N3q, K3, E3⟩ := hQ3
  have N3 := Fr.app N0 N3q
  have E_q_h3 := (E_q_h2.keep K3)
  have F_wr_h3 := (F_wr_h2.keep K3 (by simp only [List.mem_cons, List.not_mem_nil, or_false, not_or]; exact ne_a1_o))
  have F_fc_h3 := (F_fc_h2.keep K3 (by simp only [List.mem_cons, List.not_mem_nil, or_false, not_or]; exact ne_a1_o))
  have E_d_h3 := (E_d_h2.keep K3)
  have F_h3 := (F_h2.keep K3 (by simp only [List.mem_cons, List.not_mem_nil, or_false, not_or]; exact ne_d_o))
  have F_tl_h3 := (F_tl_h2.keep K3 (by simp only [List.mem_cons, List.not_mem_nil, or_false, not_or]; exact ne_d_o))
  have F_el_h3 := (F_el_h2.keep K3 (by simp only [List.mem_cons, List.not_mem_nil, or_false, not_or]; exact ne_d_o))
  have O_b_h3 := (O_b_h2.keep K3 (by simp only [List.mem_cons, List.not_mem_nil, or_false, not_or]; exact ne_b_o))
  have A2_h3 := (A2.keep K3)
  have Z3 := (Nat.le_trans Z2 K3.1)
  have KK3 := KK2.trans K3 (fun x hx => by simp only [List.mem_cons, List.not_mem_nil, or_false] at hx; rcases hx with rfl <;> first | exact Or.inr sz_o)
  obtain ⟨cq4, kq4, q4a, q4b, q4c⟩ := isOf hZ rfl E_d_h3
  obtain ⟨_, _, ⟨T4, L4, k4, n4⟩, -, X4, ⟨Lc4, hQ4, l4, y4, z4⟩, st4⟩ := X3.virtualBack hx (y := (⟨"java/util/ArrayDeque", "addLast", "(Ljava/lang/Object;)V"⟩ : MethodName)) (z := (⟨"java/util/ArrayDeque", "addLast", "(Ljava/lang/Object;)V"⟩ : MethodName)) hown (mvT hZ (hw _ (List.mem_of_getElem? (i := 75) rfl))) (mvT hZ (hw _ (List.mem_of_getElem? (i := 76) rfl))) (notFace_of_selects (args := #[]) (mvT hZ (hw _ (List.mem_of_getElem? (i := 78) rfl)))) (mvT hZ (hw _ (List.mem_of_getElem? (i := 78) rfl))) (mvT hZ (hw _ (List.mem_of_getElem? (i := 77) rfl))) (by decide) (backOf (W := 0) (rm11 l Z a0 hw [] d o b k T3.heap n0 Z3 g_d g_b ne_db E_d_h3 F_h3 F_tl_h3 F_el_h3 O_b_h3 E3 hk0 hk1) hZ (hw _ (List.mem_of_getElem? (i := 79) rfl)) (hw _ (List.mem_of_getElem? (i := 12) rfl)) (by decide) (by decide)) q4a q4c (g := (mkF m 16 #[.val (.ref a1), .val .null, .val (.int p3), .val (.int p4), .val .null] [(.ref o), (.ref d)])) rfl (by rw [hml]; rfl) (Steps.refl _) (argsL := [(.ref o)]) (rest := []) (lenOf pd_5 rfl) rfl (by show 2 * 0 + _ ≤ _; exact Nat.le_of_eq rfl) (hb hby d9_16) (fun _ _ => ⟨rfl, rfl, (by decide : 1 + 0 ≤ _), (by decide : 4 + 0 ≤ _)⟩)
  dsimp only [Pt.U, Pt.locs, Pt.cells, Pt.slots] at X4 l4 y4 z4 st4 hQ4
  subst l4 y4 z4
  obtain ⟨rfl, N4q, K4, E4, Fh4, Ft4, Fe4, O4⟩ := hQ4
  have N4 := Fr.app N3 N4q
  have E_q_h4 := (E_q_h3.keep K4)
  have F_wr_h4 := (F_wr_h3.keep K4 (by simp only [List.mem_cons, List.not_mem_nil, or_false, not_or]; exact ⟨ne_ad, ne_ab⟩))
  have F_fc_h4 := (F_fc_h3.keep K4 (by simp only [List.mem_cons, List.not_mem_nil, or_false, not_or]; exact ⟨ne_ad, ne_ab⟩))
  have E_d_h4 := (E_d_h3.keep K4)
  have E3_h4 := (E3.keep K4)
  have Z4 := (Nat.le_trans Z3 K4.1)
  have KK4 := KK3.trans K4 (fun x hx => by simp only [List.mem_cons, List.not_mem_nil, or_false] at hx; rcases hx with rfl | rfl <;> first | exact Or.inl (by simp) | exact Or.inl (by simp))
  obtain ⟨fs, hr, hrun, hended, hW, hsame⟩ := X4.leave (v := none) (fun _ => rfl)
  refine ⟨_, _, pre0 _ ?_, hrun, hended, _, _, rfl, ?_, ⟨_, rfl⟩, hW, hsame.mono (by decide) (by decide)⟩
  · show Steps p.tables e below (s₁.setTop (mkF m 0 #[.val (.ref a1), .val .null, .val (.int p3), .val (.int p4), .val .null] [])) _
    refine XS.aloadN X0.here hx rfl (hb hby d9_0) rfl rfl ?_
    show Steps p.tables e below (s₁.setTop (mkF m 1 #[.val (.ref a1), .val .null, .val (.int p3), .val (.int p4), .val .null] [(.ref a1)])) _
    refine st1 _ ?_
    show Steps p.tables e below (T1.setTop (mkF m 4 #[.val (.ref a1), .val .null, .val (.int p3), .val (.int p4), .val .null] [(.ref d)])) _
    refine st2 _ ?_
    show Steps p.tables e below (T2.setTop (mkF m 7 #[.val (.ref a1), .val .null, .val (.int p3), .val (.int p4), .val .null] [(.ref o), (.ref d)])) _
    refine XS.dup X2.here hx rfl (hb hby d9_7) rfl rfl ?_
    show Steps p.tables e below (T2.setTop (mkF m 8 #[.val (.ref a1), .val .null, .val (.int p3), .val (.int p4), .val .null] [(.ref o), (.ref o), (.ref d)])) _
    refine XS.aloadN X2.here hx rfl (hb hby d9_8) rfl rfl ?_
    show Steps p.tables e below (T2.setTop (mkF m 9 #[.val (.ref a1), .val .null, .val (.int p3), .val (.int p4), .val .null] [.null, (.ref o), (.ref o), (.ref d)])) _
    refine XS.iloadN X2.here hx rfl (hb hby d9_9) rfl ?_
    show Steps p.tables e below (T2.setTop (mkF m 10 #[.val (.ref a1), .val .null, .val (.int p3), .val (.int p4), .val .null] [(.int p3), .null, (.ref o), (.ref o), (.ref d)])) _
    refine XS.iloadN X2.here hx rfl (hb hby d9_10) rfl ?_
    show Steps p.tables e below (T2.setTop (mkF m 11 #[.val (.ref a1), .val .null, .val (.int p3), .val (.int p4), .val .null] [(.int p4), (.int p3), .null, (.ref o), (.ref o), (.ref d)])) _
    refine XS.aload X2.here hx rfl (hb hby d9_11) rfl rfl ?_
    show Steps p.tables e below (T2.setTop (mkF m 13 #[.val (.ref a1), .val .null, .val (.int p3), .val (.int p4), .val .null] [.null, (.int p4), (.int p3), .null, (.ref o), (.ref o), (.ref d)])) _
    refine st3.trans ?_
    show Steps p.tables e below (T3.setTop (mkF m 16 #[.val (.ref a1), .val .null, .val (.int p3), .val (.int p4), .val .null] [(.ref o), (.ref d)])) _
    refine st4.trans ?_
    show Steps p.tables e below (T4.setTop (mkF m 19 #[.val (.ref a1), .val .null, .val (.int p3), .val (.int p4), .val .null] [])) _
    exact X4.returnOut hx Bd.returns (hb hby d9_19) hr
  · show Q9 Z a1 p3 p4 d b k u h0 n0 _ T4.heap _
    exact ⟨rfl, N4, KK4, ⟨E_q_h4, F_wr_h4, F_fc_h4, E4, Fh4, Ft4, Fe4, O4⟩⟩

set_option maxRecDepth 65536 in
set_option maxHeartbeats 40000000 in
theorem own_s1 {p : Program} {l : Launch} {e : Env} {s : State} {m : MethodId} {args : Array Value} {below : List Frame} {meth : Method} {c : Code} {T0 : State} {locs : List Loc} {Z : State} {a0 : Array Value} {h0 : Heap} {n0 : Nat} (p1 p2 p3 p4 nn mm f1 f2 : Int32) (o d b : Addr) (k k' fc : Int32)
    (X0 : Stand p l e room_1 s m args below meth c T0 locs 5 43) (hx : p.tables.exec = Jvm.exec) (hZ : Z.Warmed39 s.vm) (hw : ∀ d ∈ tables_1, d.before a0 Z = true) (hby : c.code = code) (hml : c.maxLocals = 14) (hown : s.vm.findClass "com/example/grelo/grelo/WriteQueueFlushPinLaw" = some m.cls) (e0 : T0.heap = h0) (Z0 : n0 ≤ h0.size) (N0 : Fr n0 locs) (g_o : n0 ≤ o) (g_d : n0 ≤ d) (g_b : n0 ≤ b) (ne_od : o ≠ d) (ne_ob : o ≠ b) (ne_db : d ≠ b) (S0 : own_St Z h0 o d b k (.int fc)) (hk0 : 0 ≤ k.toInt) (hk1 : k.toInt ≤ 10) (hk' : k' = if nn < (1 : Int32) then k else own_inc k (17 : Int32)) :
    ∃ (T' : State) (h' : Heap) (locs' : List Loc), Stand p l e room_1 s m args below meth c T' locs' 6 47 ∧ T'.heap = h' ∧ Fr n0 locs' ∧ n0 ≤ h'.size ∧ own_St Z h' o d b k' (.int fc) ∧ ∀ t, Steps p.tables e below (T'.setTop (mkF m 71 #[.val (.int p1), .val (.int p2), .val (.int p3), .val (.int p4), .val (.int nn), .val (.int mm), .val (.int f1), .val (.int f2), .val (.ref o), .unset, .unset, .unset, .unset, .unset] [])) t → Steps p.tables e below (T0.setTop (mkF m 56 #[.val (.int p1), .val (.int p2), .val (.int p3), .val (.int p4), .val (.int nn), .val (.int mm), .val (.int f1), .val (.int f2), .val (.ref o), .unset, .unset, .unset, .unset, .unset] [])) t := by
  by_cases q : nn < (1 : Int32)
  · rw [if_pos q] at hk'; subst hk'
    refine ⟨_, _, _, own_more X0 (by decide) (by decide), e0, N0, Z0, S0, fun t kt => ?_⟩
    show Steps p.tables e below (T0.setTop (mkF m 56 #[.val (.int p1), .val (.int p2), .val (.int p3), .val (.int p4), .val (.int nn), .val (.int mm), .val (.int f1), .val (.int f2), .val (.ref o), .unset, .unset, .unset, .unset, .unset] [])) _
    refine XS.iload X0.here hx rfl (hb hby at_56) rfl ?_
    show Steps p.tables e below (T0.setTop (mkF m 58 #[.val (.int p1), .val (.int p2), .val (.int p3), .val (.int p4), .val (.int nn), .val (.int mm), .val (.int f1), .val (.int f2), .val (.ref o), .unset, .unset, .unset, .unset, .unset] [(.int nn)])) _
    refine XS.iconst X0.here hx rfl (hb hby at_58) ?_
    show Steps p.tables e below (T0.setTop (mkF m 59 #[.val (.int p1), .val (.int p2), .val (.int p3), .val (.int p4), .val (.int nn), .val (.int mm), .val (.int f1), .val (.int f2), .val (.ref o), .unset, .unset, .unset, .unset, .unset] [(.int (1 : Int32)), (.int nn)])) _
    refine XS.icmpYes X0.here hx rfl (pc0 := 59) (pc' := 71) rfl (hb hby at_59) rfl (tlt (q : nn < (1 : Int32))).1 (by decide) (by decide) ?_
    exact kt
  · rw [if_neg q] at hk'; subst hk'
    have E_o := S0.1
    obtain ⟨cq1, kq1, q1a, q1b, q1c⟩ := isOf hZ e0 E_o
    obtain ⟨_, _, ⟨T1, L1, k1, n1⟩, -, X1, ⟨Lc1, hQ1, l1, y1, z1⟩, st1⟩ := X0.virtualBack hx (y := (⟨"com/example/grelo/grelo/WriteQueue", "add", "(Ljava/nio/ByteBuffer;IILjava/util/concurrent/CompletableFuture;)V"⟩ : MethodName)) (z := (⟨"com/example/grelo/grelo/WriteQueue", "add", "(Ljava/nio/ByteBuffer;IILjava/util/concurrent/CompletableFuture;)V"⟩ : MethodName)) hown (mvT hZ (hw _ (List.mem_of_getElem? (i := 55) rfl))) (mvT hZ (hw _ (List.mem_of_getElem? (i := 56) rfl))) (notFace_of_selects (args := #[]) (mvT hZ (hw _ (List.mem_of_getElem? (i := 58) rfl)))) (mvT hZ (hw _ (List.mem_of_getElem? (i := 58) rfl))) (mvT hZ (hw _ (List.mem_of_getElem? (i := 57) rfl))) (by decide) (backOf (W := 0) (rm9 l Z a0 hw [] o p3 p4 d b k (.int fc) h0 n0 Z0 g_d g_b ne_od ne_ob ne_db S0 hk0 hk1) hZ (hw _ (List.mem_of_getElem? (i := 59) rfl)) (hw _ (List.mem_of_getElem? (i := 3) rfl)) (by decide) (by decide)) q1a q1c (g := (mkF m 68 #[.val (.int p1), .val (.int p2), .val (.int p3), .val (.int p4), .val (.int nn), .val (.int mm), .val (.int f1), .val (.int f2), .val (.ref o), .unset, .unset, .unset, .unset, .unset] [.null, (.int p4), (.int p3), .null, (.ref o)])) rfl (by rw [hml]; rfl) (Steps.refl _) (argsL := [.null, (.int p3), (.int p4), .null]) (rest := []) (lenOf pd_4 rfl) rfl (by show 2 * 0 + _ ≤ _; exact Nat.le_of_eq rfl) (hb hby at_68) (fun _ _ => ⟨rfl, e0, (by decide : 5 + 1 ≤ _), (by decide : 43 + 4 ≤ _)⟩)
    dsimp only [Pt.U, Pt.locs, Pt.cells, Pt.slots] at X1 l1 y1 z1 st1 hQ1
    subst l1 y1 z1
    obtain ⟨rfl, N1q, K1, S1⟩ := hQ1
    have N1 := Fr.app N0 N1q
    have E_o_h1 := (E_o.keep K1)
    have Z1 := (Nat.le_trans Z0 K1.1)
    refine ⟨_, _, _, X1, rfl, N1, Z1, S1, fun t kt => ?_⟩
    show Steps p.tables e below (T0.setTop (mkF m 56 #[.val (.int p1), .val (.int p2), .val (.int p3), .val (.int p4), .val (.int nn), .val (.int mm), .val (.int f1), .val (.int f2), .val (.ref o), .unset, .unset, .unset, .unset, .unset] [])) _
    refine XS.iload X0.here hx rfl (hb hby at_56) rfl ?_
    show Steps p.tables e below (T0.setTop (mkF m 58 #[.val (.int p1), .val (.int p2), .val (.int p3), .val (.int p4), .val (.int nn), .val (.int mm), .val (.int f1), .val (.int f2), .val (.ref o), .unset, .unset, .unset, .unset, .unset] [(.int nn)])) _
    refine XS.iconst X0.here hx rfl (hb hby at_58) ?_
    show Steps p.tables e below (T0.setTop (mkF m 59 #[.val (.int p1), .val (.int p2), .val (.int p3), .val (.int p4), .val (.int nn), .val (.int mm), .val (.int f1), .val (.int f2), .val (.ref o), .unset, .unset, .unset, .unset, .unset] [(.int (1 : Int32)), (.int nn)])) _
    refine XS.icmpNo X0.here hx rfl (hb hby at_59) rfl (flt (q : ¬ (nn < (1 : Int32)))).1 ?_
    show Steps p.tables e below (T0.setTop (mkF m 62 #[.val (.int p1), .val (.int p2), .val (.int p3), .val (.int p4), .val (.int nn), .val (.int mm), .val (.int f1), .val (.int f2), .val (.ref o), .unset, .unset, .unset, .unset, .unset] [])) _
    refine XS.aload X0.here hx rfl (hb hby at_62) rfl rfl ?_
    show Steps p.tables e below (T0.setTop (mkF m 64 #[.val (.int p1), .val (.int p2), .val (.int p3), .val (.int p4), .val (.int nn), .val (.int mm), .val (.int f1), .val (.int f2), .val (.ref o), .unset, .unset, .unset, .unset, .unset] [(.ref o)])) _
    refine XS.aconstNull X0.here hx rfl (hb hby at_64) ?_
    show Steps p.tables e below (T0.setTop (mkF m 65 #[.val (.int p1), .val (.int p2), .val (.int p3), .val (.int p4), .val (.int nn), .val (.int mm), .val (.int f1), .val (.int f2), .val (.ref o), .unset, .unset, .unset, .unset, .unset] [.null, (.ref o)])) _
    refine XS.iloadN X0.here hx rfl (hb hby at_65) rfl ?_
    show Steps p.tables e below (T0.setTop (mkF m 66 #[.val (.int p1), .val (.int p2), .val (.int p3), .val (.int p4), .val (.int nn), .val (.int mm), .val (.int f1), .val (.int f2), .val (.ref o), .unset, .unset, .unset, .unset, .unset] [(.int p3), .null, (.ref o)])) _
    refine XS.iloadN X0.here hx rfl (hb hby at_66) rfl ?_
    show Steps p.tables e below (T0.setTop (mkF m 67 #[.val (.int p1), .val (.int p2), .val (.int p3), .val (.int p4), .val (.int nn), .val (.int mm), .val (.int f1), .val (.int f2), .val (.ref o), .unset, .unset, .unset, .unset, .unset] [(.int p4), (.int p3), .null, (.ref o)])) _
    refine XS.aconstNull X0.here hx rfl (hb hby at_67) ?_
    show Steps p.tables e below (T0.setTop (mkF m 68 #[.val (.int p1), .val (.int p2), .val (.int p3), .val (.int p4), .val (.int nn), .val (.int mm), .val (.int f1), .val (.int f2), .val (.ref o), .unset, .unset, .unset, .unset, .unset] [.null, (.int p4), (.int p3), .null, (.ref o)])) _
    refine st1.trans ?_
    exact kt

set_option maxRecDepth 65536 in
set_option maxHeartbeats 40000000 in
theorem own_s2 {p : Program} {l : Launch} {e : Env} {s : State} {m : MethodId} {args : Array Value} {below : List Frame} {meth : Method} {c : Code} {T0 : State} {locs : List Loc} {Z : State} {a0 : Array Value} {h0 : Heap} {n0 : Nat} (p1 p2 p3 p4 nn mm f1 f2 : Int32) (o d b : Addr) (k k' fc : Int32)
    (X0 : Stand p l e room_1 s m args below meth c T0 locs 6 47) (hx : p.tables.exec = Jvm.exec) (hZ : Z.Warmed39 s.vm) (hw : ∀ d ∈ tables_1, d.before a0 Z = true) (hby : c.code = code) (hml : c.maxLocals = 14) (hown : s.vm.findClass "com/example/grelo/grelo/WriteQueueFlushPinLaw" = some m.cls) (e0 : T0.heap = h0) (Z0 : n0 ≤ h0.size) (N0 : Fr n0 locs) (g_o : n0 ≤ o) (g_d : n0 ≤ d) (g_b : n0 ≤ b) (ne_od : o ≠ d) (ne_ob : o ≠ b) (ne_db : d ≠ b) (S0 : own_St Z h0 o d b k (.int fc)) (hk0 : 0 ≤ k.toInt) (hk1 : k.toInt ≤ 10) (hk' : k' = if nn < (2 : Int32) then k else own_inc k (17 : Int32)) :
    ∃ (T' : State) (h' : Heap) (locs' : List Loc), Stand p l e room_1 s m args below meth c T' locs' 7 51 ∧ T'.heap = h' ∧ Fr n0 locs' ∧ n0 ≤ h'.size ∧ own_St Z h' o d b k' (.int fc) ∧ ∀ t, Steps p.tables e below (T'.setTop (mkF m 86 #[.val (.int p1), .val (.int p2), .val (.int p3), .val (.int p4), .val (.int nn), .val (.int mm), .val (.int f1), .val (.int f2), .val (.ref o), .unset, .unset, .unset, .unset, .unset] [])) t → Steps p.tables e below (T0.setTop (mkF m 71 #[.val (.int p1), .val (.int p2), .val (.int p3), .val (.int p4), .val (.int nn), .val (.int mm), .val (.int f1), .val (.int f2), .val (.ref o), .unset, .unset, .unset, .unset, .unset] [])) t := by
  by_cases q : nn < (2 : Int32)
  · rw [if_pos q] at hk'; subst hk'
    refine ⟨_, _, _, own_more X0 (by decide) (by decide), e0, N0, Z0, S0, fun t kt => ?_⟩
    show Steps p.tables e below (T0.setTop (mkF m 71 #[.val (.int p1), .val (.int p2), .val (.int p3), .val (.int p4), .val (.int nn), .val (.int mm), .val (.int f1), .val (.int f2), .val (.ref o), .unset, .unset, .unset, .unset, .unset] [])) _
    refine XS.iload X0.here hx rfl (hb hby at_71) rfl ?_
    show Steps p.tables e below (T0.setTop (mkF m 73 #[.val (.int p1), .val (.int p2), .val (.int p3), .val (.int p4), .val (.int nn), .val (.int mm), .val (.int f1), .val (.int f2), .val (.ref o), .unset, .unset, .unset, .unset, .unset] [(.int nn)])) _
    refine XS.iconst X0.here hx rfl (hb hby at_73) ?_
    show Steps p.tables e below (T0.setTop (mkF m 74 #[.val (.int p1), .val (.int p2), .val (.int p3), .val (.int p4), .val (.int nn), .val (.int mm), .val (.int f1), .val (.int f2), .val (.ref o), .unset, .unset, .unset, .unset, .unset] [(.int (2 : Int32)), (.int nn)])) _
    refine XS.icmpYes X0.here hx rfl (pc0 := 74) (pc' := 86) rfl (hb hby at_74) rfl (tlt (q : nn < (2 : Int32))).1 (by decide) (by decide) ?_
    exact kt
  · rw [if_neg q] at hk'; subst hk'
    have E_o := S0.1
    obtain ⟨cq1, kq1, q1a, q1b, q1c⟩ := isOf hZ e0 E_o
    obtain ⟨_, _, ⟨T1, L1, k1, n1⟩, -, X1, ⟨Lc1, hQ1, l1, y1, z1⟩, st1⟩ := X0.virtualBack hx (y := (⟨"com/example/grelo/grelo/WriteQueue", "add", "(Ljava/nio/ByteBuffer;IILjava/util/concurrent/CompletableFuture;)V"⟩ : MethodName)) (z := (⟨"com/example/grelo/grelo/WriteQueue", "add", "(Ljava/nio/ByteBuffer;IILjava/util/concurrent/CompletableFuture;)V"⟩ : MethodName)) hown (mvT hZ (hw _ (List.mem_of_getElem? (i := 55) rfl))) (mvT hZ (hw _ (List.mem_of_getElem? (i := 56) rfl))) (notFace_of_selects (args := #[]) (mvT hZ (hw _ (List.mem_of_getElem? (i := 58) rfl)))) (mvT hZ (hw _ (List.mem_of_getElem? (i := 58) rfl))) (mvT hZ (hw _ (List.mem_of_getElem? (i := 57) rfl))) (by decide) (backOf (W := 0) (rm9 l Z a0 hw [] o p4 p3 d b k (.int fc) h0 n0 Z0 g_d g_b ne_od ne_ob ne_db S0 hk0 hk1) hZ (hw _ (List.mem_of_getElem? (i := 59) rfl)) (hw _ (List.mem_of_getElem? (i := 3) rfl)) (by decide) (by decide)) q1a q1c (g := (mkF m 83 #[.val (.int p1), .val (.int p2), .val (.int p3), .val (.int p4), .val (.int nn), .val (.int mm), .val (.int f1), .val (.int f2), .val (.ref o), .unset, .unset, .unset, .unset, .unset] [.null, (.int p3), (.int p4), .null, (.ref o)])) rfl (by rw [hml]; rfl) (Steps.refl _) (argsL := [.null, (.int p4), (.int p3), .null]) (rest := []) (lenOf pd_4 rfl) rfl (by show 2 * 0 + _ ≤ _; exact Nat.le_of_eq rfl) (hb hby at_83) (fun _ _ => ⟨rfl, e0, (by decide : 6 + 1 ≤ _), (by decide : 47 + 4 ≤ _)⟩)
    dsimp only [Pt.U, Pt.locs, Pt.cells, Pt.slots] at X1 l1 y1 z1 st1 hQ1
    subst l1 y1 z1
    obtain ⟨rfl, N1q, K1, S1⟩ := hQ1
    have N1 := Fr.app N0 N1q
    have E_o_h1 := (E_o.keep K1)
    have Z1 := (Nat.le_trans Z0 K1.1)
    refine ⟨_, _, _, X1, rfl, N1, Z1, S1, fun t kt => ?_⟩
    show Steps p.tables e below (T0.setTop (mkF m 71 #[.val (.int p1), .val (.int p2), .val (.int p3), .val (.int p4), .val (.int nn), .val (.int mm), .val (.int f1), .val (.int f2), .val (.ref o), .unset, .unset, .unset, .unset, .unset] [])) _
    refine XS.iload X0.here hx rfl (hb hby at_71) rfl ?_
    show Steps p.tables e below (T0.setTop (mkF m 73 #[.val (.int p1), .val (.int p2), .val (.int p3), .val (.int p4), .val (.int nn), .val (.int mm), .val (.int f1), .val (.int f2), .val (.ref o), .unset, .unset, .unset, .unset, .unset] [(.int nn)])) _
    refine XS.iconst X0.here hx rfl (hb hby at_73) ?_
    show Steps p.tables e below (T0.setTop (mkF m 74 #[.val (.int p1), .val (.int p2), .val (.int p3), .val (.int p4), .val (.int nn), .val (.int mm), .val (.int f1), .val (.int f2), .val (.ref o), .unset, .unset, .unset, .unset, .unset] [(.int (2 : Int32)), (.int nn)])) _
    refine XS.icmpNo X0.here hx rfl (hb hby at_74) rfl (flt (q : ¬ (nn < (2 : Int32)))).1 ?_
    show Steps p.tables e below (T0.setTop (mkF m 77 #[.val (.int p1), .val (.int p2), .val (.int p3), .val (.int p4), .val (.int nn), .val (.int mm), .val (.int f1), .val (.int f2), .val (.ref o), .unset, .unset, .unset, .unset, .unset] [])) _
    refine XS.aload X0.here hx rfl (hb hby at_77) rfl rfl ?_
    show Steps p.tables e below (T0.setTop (mkF m 79 #[.val (.int p1), .val (.int p2), .val (.int p3), .val (.int p4), .val (.int nn), .val (.int mm), .val (.int f1), .val (.int f2), .val (.ref o), .unset, .unset, .unset, .unset, .unset] [(.ref o)])) _
    refine XS.aconstNull X0.here hx rfl (hb hby at_79) ?_
    show Steps p.tables e below (T0.setTop (mkF m 80 #[.val (.int p1), .val (.int p2), .val (.int p3), .val (.int p4), .val (.int nn), .val (.int mm), .val (.int f1), .val (.int f2), .val (.ref o), .unset, .unset, .unset, .unset, .unset] [.null, (.ref o)])) _
    refine XS.iloadN X0.here hx rfl (hb hby at_80) rfl ?_
    show Steps p.tables e below (T0.setTop (mkF m 81 #[.val (.int p1), .val (.int p2), .val (.int p3), .val (.int p4), .val (.int nn), .val (.int mm), .val (.int f1), .val (.int f2), .val (.ref o), .unset, .unset, .unset, .unset, .unset] [(.int p4), .null, (.ref o)])) _
    refine XS.iloadN X0.here hx rfl (hb hby at_81) rfl ?_
    show Steps p.tables e below (T0.setTop (mkF m 82 #[.val (.int p1), .val (.int p2), .val (.int p3), .val (.int p4), .val (.int nn), .val (.int mm), .val (.int f1), .val (.int f2), .val (.ref o), .unset, .unset, .unset, .unset, .unset] [(.int p3), (.int p4), .null, (.ref o)])) _
    refine XS.aconstNull X0.here hx rfl (hb hby at_82) ?_
    show Steps p.tables e below (T0.setTop (mkF m 83 #[.val (.int p1), .val (.int p2), .val (.int p3), .val (.int p4), .val (.int nn), .val (.int mm), .val (.int f1), .val (.int f2), .val (.ref o), .unset, .unset, .unset, .unset, .unset] [.null, (.int p3), (.int p4), .null, (.ref o)])) _
    refine st1.trans ?_
    exact kt

set_option maxRecDepth 65536 in
set_option maxHeartbeats 40000000 in
theorem own_s3 {p : Program} {l : Launch} {e : Env} {s : State} {m : MethodId} {args : Array Value} {below : List Frame} {meth : Method} {c : Code} {T0 : State} {locs : List Loc} {Z : State} {a0 : Array Value} {h0 : Heap} {n0 : Nat} (p1 p2 p3 p4 nn mm f1 f2 : Int32) (o d b : Addr) (k fc k' : Int32)
    (X0 : Stand p l e room_1 s m args below meth c T0 locs 7 51) (hx : p.tables.exec = Jvm.exec) (hZ : Z.Warmed39 s.vm) (hw : ∀ d ∈ tables_1, d.before a0 Z = true) (hby : c.code = code) (hml : c.maxLocals = 14) (hown : s.vm.findClass "com/example/grelo/grelo/WriteQueueFlushPinLaw" = some m.cls) (e0 : T0.heap = h0) (Z0 : n0 ≤ h0.size) (N0 : Fr n0 locs) (g_o : n0 ≤ o) (g_d : n0 ≤ d) (g_b : n0 ≤ b) (ne_od : o ≠ d) (ne_ob : o ≠ b) (ne_db : d ≠ b) (S0 : own_St Z h0 o d b k (.int fc)) (hk' : k' = if f1 = (0 : Int32) then fc else own_sub k (0 : Int32) (17 : Int32)) :
    ∃ (T' : State) (h' : Heap) (locs' : List Loc), Stand p l e room_1 s m args below meth c T' locs' 7 51 ∧ T'.heap = h' ∧ Fr n0 locs' ∧ n0 ≤ h'.size ∧ own_St Z h' o d b k (.int k') ∧ ∀ t, Steps p.tables e below (T'.setTop (mkF m 103 #[.val (.int p1), .val (.int p2), .val (.int p3), .val (.int p4), .val (.int nn), .val (.int mm), .val (.int f1), .val (.int f2), .val (.ref o), .val (.int (0 : Int32)), .unset, .unset, .unset, .unset] [])) t → Steps p.tables e below (T0.setTop (mkF m 93 #[.val (.int p1), .val (.int p2), .val (.int p3), .val (.int p4), .val (.int nn), .val (.int mm), .val (.int f1), .val (.int f2), .val (.ref o), .val (.int (0 : Int32)), .unset, .unset, .unset, .unset] [])) t := by
  by_cases q : f1 = (0 : Int32)
  · rw [if_pos q] at hk'; subst hk'
    refine ⟨_, _, _, own_more X0 (by decide) (by decide), e0, N0, Z0, S0, fun t kt => ?_⟩
    show Steps p.tables e below (T0.setTop (mkF m 93 #[.val (.int p1), .val (.int p2), .val (.int p3), .val (.int p4), .val (.int nn), .val (.int mm), .val (.int f1), .val (.int f2), .val (.ref o), .val (.int (0 : Int32)), .unset, .unset, .unset, .unset] [])) _
    refine XS.iload X0.here hx rfl (hb hby at_93) rfl ?_
    show Steps p.tables e below (T0.setTop (mkF m 95 #[.val (.int p1), .val (.int p2), .val (.int p3), .val (.int p4), .val (.int nn), .val (.int mm), .val (.int f1), .val (.int f2), .val (.ref o), .val (.int (0 : Int32)), .unset, .unset, .unset, .unset] [(.int f1)])) _
    refine XS.ifYes X0.here hx rfl (pc0 := 95) (pc' := 103) rfl (hb hby at_95) rfl ((if0 _ _).trans (teq (q : f1 = (0 : Int32))).1) (by decide) (by decide) ?_
    exact kt
  · rw [if_neg q] at hk'; subst hk'
    have E_o := S0.1
    obtain ⟨cq1, kq1, q1a, q1b, q1c⟩ := isOf hZ e0 E_o
    obtain ⟨_, _, ⟨T1, L1, k1, n1⟩, -, X1, ⟨Lc1, hQ1, l1, y1, z1⟩, st1⟩ := X0.virtualBack hx (y := (⟨"com/example/grelo/grelo/WriteQueue", "flush", "()V"⟩ : MethodName)) (z := (⟨"com/example/grelo/grelo/WriteQueue", "flush", "()V"⟩ : MethodName)) hown (mvT hZ (hw _ (List.mem_of_getElem? (i := 38) rfl))) (mvT hZ (hw _ (List.mem_of_getElem? (i := 39) rfl))) (notFace_of_selects (args := #[]) (mvT hZ (hw _ (List.mem_of_getElem? (i := 41) rfl)))) (mvT hZ (hw _ (List.mem_of_getElem? (i := 41) rfl))) (mvT hZ (hw _ (List.mem_of_getElem? (i := 40) rfl))) (by decide) (backOf (W := 0) (rm6 l Z a0 hw [] o d b k (.int fc) h0 n0 Z0 g_o ne_od ne_ob S0) hZ (hw _ (List.mem_of_getElem? (i := 42) rfl)) (hw _ (List.mem_of_getElem? (i := 3) rfl)) (by decide) (by decide)) q1a q1c (g := (mkF m 100 #[.val (.int p1), .val (.int p2), .val (.int p3), .val (.int p4), .val (.int nn), .val (.int mm), .val (.int f1), .val (.int f2), .val (.ref o), .val (.int (0 : Int32)), .unset, .unset, .unset, .unset] [(.ref o)])) rfl (by rw [hml]; rfl) (Steps.refl _) (argsL := []) (rest := []) (lenOf pd_0 rfl) rfl (by show 2 * 0 + _ ≤ _; exact Nat.le_of_eq rfl) (hb hby at_100) (fun _ _ => ⟨rfl, e0, (by decide : 7 + 0 ≤ _), (by decide : 51 + 0 ≤ _)⟩)
    dsimp only [Pt.U, Pt.locs, Pt.cells, Pt.slots] at X1 l1 y1 z1 st1 hQ1
    subst l1 y1 z1
    obtain ⟨rfl, N1q, K1, S1⟩ := hQ1
    have N1 := Fr.app N0 N1q
    have E_o_h1 := (E_o.keep K1)
    have Z1 := (Nat.le_trans Z0 K1.1)
    refine ⟨_, _, _, X1, rfl, N1, Z1, S1, fun t kt => ?_⟩
    show Steps p.tables e below (T0.setTop (mkF m 93 #[.val (.int p1), .val (.int p2), .val (.int p3), .val (.int p4), .val (.int nn), .val (.int mm), .val (.int f1), .val (.int f2), .val (.ref o), .val (.int (0 : Int32)), .unset, .unset, .unset, .unset] [])) _
    refine XS.iload X0.here hx rfl (hb hby at_93) rfl ?_
    show Steps p.tables e below (T0.setTop (mkF m 95 #[.val (.int p1), .val (.int p2), .val (.int p3), .val (.int p4), .val (.int nn), .val (.int mm), .val (.int f1), .val (.int f2), .val (.ref o), .val (.int (0 : Int32)), .unset, .unset, .unset, .unset] [(.int f1)])) _
    refine XS.ifNo X0.here hx rfl (hb hby at_95) rfl ((if0 _ _).trans (feq (q : ¬ (f1 = (0 : Int32)))).1) ?_
    show Steps p.tables e below (T0.setTop (mkF m 98 #[.val (.int p1), .val (.int p2), .val (.int p3), .val (.int p4), .val (.int nn), .val (.int mm), .val (.int f1), .val (.int f2), .val (.ref o), .val (.int (0 : Int32)), .unset, .unset, .unset, .unset] [])) _
    refine XS.aload X0.here hx rfl (hb hby at_98) rfl rfl ?_
    show Steps p.tables e below (T0.setTop (mkF m 100 #[.val (.int p1), .val (.int p2), .val (.int p3), .val (.int p4), .val (.int nn), .val (.int mm), .val (.int f1), .val (.int f2), .val (.ref o), .val (.int (0 : Int32)), .unset, .unset, .unset, .unset] [(.ref o)])) _
    refine st1.trans ?_
    exact kt

set_option maxRecDepth 65536 in
set_option maxHeartbeats 40000000 in
theorem own_s4 {p : Program} {l : Launch} {e : Env} {s : State} {m : MethodId} {args : Array Value} {below : List Frame} {meth : Method} {c : Code} {T0 : State} {locs : List Loc} {Z : State} {a0 : Array Value} {h0 : Heap} {n0 : Nat} (p1 p2 p3 p4 nn mm f1 f2 : Int32) (o d b : Addr) (v2 : Int32) (k k' fc : Int32)
    (X0 : Stand p l e room_1 s m args below meth c T0 locs 7 51) (hx : p.tables.exec = Jvm.exec) (hZ : Z.Warmed39 s.vm) (hw : ∀ d ∈ tables_1, d.before a0 Z = true) (hby : c.code = code) (hml : c.maxLocals = 14) (hown : s.vm.findClass "com/example/grelo/grelo/WriteQueueFlushPinLaw" = some m.cls) (e0 : T0.heap = h0) (Z0 : n0 ≤ h0.size) (N0 : Fr n0 locs) (g_o : n0 ≤ o) (g_d : n0 ≤ d) (g_b : n0 ≤ b) (ne_od : o ≠ d) (ne_ob : o ≠ b) (ne_db : d ≠ b) (S0 : own_St Z h0 o d b k (.int fc)) (hk0 : 0 ≤ k.toInt) (hk1 : k.toInt ≤ 10) (hk' : k' = if mm = (0 : Int32) then k else own_inc k (17 : Int32)) :
    ∃ (T' : State) (h' : Heap) (locs' : List Loc), Stand p l e room_1 s m args below meth c T' locs' 8 55 ∧ T'.heap = h' ∧ Fr n0 locs' ∧ n0 ≤ h'.size ∧ own_St Z h' o d b k' (.int fc) ∧ ∀ t, Steps p.tables e below (T'.setTop (mkF m 124 #[.val (.int p1), .val (.int p2), .val (.int p3), .val (.int p4), .val (.int nn), .val (.int mm), .val (.int f1), .val (.int f2), .val (.ref o), .val (.int (0 : Int32)), .val (.int v2), .unset, .unset, .unset] [])) t → Steps p.tables e below (T0.setTop (mkF m 110 #[.val (.int p1), .val (.int p2), .val (.int p3), .val (.int p4), .val (.int nn), .val (.int mm), .val (.int f1), .val (.int f2), .val (.ref o), .val (.int (0 : Int32)), .val (.int v2), .unset, .unset, .unset] [])) t := by
  by_cases q : mm = (0 : Int32)
  · rw [if_pos q] at hk'; subst hk'
    refine ⟨_, _, _, own_more X0 (by decide) (by decide), e0, N0, Z0, S0, fun t kt => ?_⟩
    show Steps p.tables e below (T0.setTop (mkF m 110 #[.val (.int p1), .val (.int p2), .val (.int p3), .val (.int p4), .val (.int nn), .val (.int mm), .val (.int f1), .val (.int f2), .val (.ref o), .val (.int (0 : Int32)), .val (.int v2), .unset, .unset, .unset] [])) _
    refine XS.iload X0.here hx rfl (hb hby at_110) rfl ?_
    show Steps p.tables e below (T0.setTop (mkF m 112 #[.val (.int p1), .val (.int p2), .val (.int p3), .val (.int p4), .val (.int nn), .val (.int mm), .val (.int f1), .val (.int f2), .val (.ref o), .val (.int (0 : Int32)), .val (.int v2), .unset, .unset, .unset] [(.int mm)])) _
    refine XS.ifYes X0.here hx rfl (pc0 := 112) (pc' := 124) rfl (hb hby at_112) rfl ((if0 _ _).trans (teq (q : mm = (0 : Int32))).1) (by decide) (by decide) ?_
    exact kt
  · rw [if_neg q] at hk'; subst hk'
    have E_o := S0.1
    obtain ⟨cq1, kq1, q1a, q1b, q1c⟩ := isOf hZ e0 E_o
    obtain ⟨_, _, ⟨T1, L1, k1, n1⟩, -, X1, ⟨Lc1, hQ1, l1, y1, z1⟩, st1⟩ := X0.virtualBack hx (y := (⟨"com/example/grelo/grelo/WriteQueue", "add", "(Ljava/nio/ByteBuffer;IILjava/util/concurrent/CompletableFuture;)V"⟩ : MethodName)) (z := (⟨"com/example/grelo/grelo/WriteQueue", "add", "(Ljava/nio/ByteBuffer;IILjava/util/concurrent/CompletableFuture;)V"⟩ : MethodName)) hown (mvT hZ (hw _ (List.mem_of_getElem? (i := 55) rfl))) (mvT hZ (hw _ (List.mem_of_getElem? (i := 56) rfl))) (notFace_of_selects (args := #[]) (mvT hZ (hw _ (List.mem_of_getElem? (i := 58) rfl)))) (mvT hZ (hw _ (List.mem_of_getElem? (i := 58) rfl))) (mvT hZ (hw _ (List.mem_of_getElem? (i := 57) rfl))) (by decide) (backOf (W := 0) (rm9 l Z a0 hw [] o p3 p3 d b k (.int fc) h0 n0 Z0 g_d g_b ne_od ne_ob ne_db S0 hk0 hk1) hZ (hw _ (List.mem_of_getElem? (i := 59) rfl)) (hw _ (List.mem_of_getElem? (i := 3) rfl)) (by decide) (by decide)) q1a q1c (g := (mkF m 121 #[.val (.int p1), .val (.int p2), .val (.int p3), .val (.int p4), .val (.int nn), .val (.int mm), .val (.int f1), .val (.int f2), .val (.ref o), .val (.int (0 : Int32)), .val (.int v2), .unset, .unset, .unset] [.null, (.int p3), (.int p3), .null, (.ref o)])) rfl (by rw [hml]; rfl) (Steps.refl _) (argsL := [.null, (.int p3), (.int p3), .null]) (rest := []) (lenOf pd_4 rfl) rfl (by show 2 * 0 + _ ≤ _; exact Nat.le_of_eq rfl) (hb hby at_121) (fun _ _ => ⟨rfl, e0, (by decide : 7 + 1 ≤ _), (by decide : 51 + 4 ≤ _)⟩)
    dsimp only [Pt.U, Pt.locs, Pt.cells, Pt.slots] at X1 l1 y1 z1 st1 hQ1
    subst l1 y1 z1
    obtain ⟨rfl, N1q, K1, S1⟩ := hQ1
    have N1 := Fr.app N0 N1q
    have E_o_h1 := (E_o.keep K1)
    have Z1 := (Nat.le_trans Z0 K1.1)
    refine ⟨_, _, _, X1, rfl, N1, Z1, S1, fun t kt => ?_⟩
    show Steps p.tables e below (T0.setTop (mkF m 110 #[.val (.int p1), .val (.int p2), .val (.int p3), .val (.int p4), .val (.int nn), .val (.int mm), .val (.int f1), .val (.int f2), .val (.ref o), .val (.int (0 : Int32)), .val (.int v2), .unset, .unset, .unset] [])) _
    refine XS.iload X0.here hx rfl (hb hby at_110) rfl ?_
    show Steps p.tables e below (T0.setTop (mkF m 112 #[.val (.int p1), .val (.int p2), .val (.int p3), .val (.int p4), .val (.int nn), .val (.int mm), .val (.int f1), .val (.int f2), .val (.ref o), .val (.int (0 : Int32)), .val (.int v2), .unset, .unset, .unset] [(.int mm)])) _
    refine XS.ifNo X0.here hx rfl (hb hby at_112) rfl ((if0 _ _).trans (feq (q : ¬ (mm = (0 : Int32)))).1) ?_
    show Steps p.tables e below (T0.setTop (mkF m 115 #[.val (.int p1), .val (.int p2), .val (.int p3), .val (.int p4), .val (.int nn), .val (.int mm), .val (.int f1), .val (.int f2), .val (.ref o), .val (.int (0 : Int32)), .val (.int v2), .unset, .unset, .unset] [])) _
    refine XS.aload X0.here hx rfl (hb hby at_115) rfl rfl ?_
    show Steps p.tables e below (T0.setTop (mkF m 117 #[.val (.int p1), .val (.int p2), .val (.int p3), .val (.int p4), .val (.int nn), .val (.int mm), .val (.int f1), .val (.int f2), .val (.ref o), .val (.int (0 : Int32)), .val (.int v2), .unset, .unset, .unset] [(.ref o)])) _
    refine XS.aconstNull X0.here hx rfl (hb hby at_117) ?_
    show Steps p.tables e below (T0.setTop (mkF m 118 #[.val (.int p1), .val (.int p2), .val (.int p3), .val (.int p4), .val (.int nn), .val (.int mm), .val (.int f1), .val (.int f2), .val (.ref o), .val (.int (0 : Int32)), .val (.int v2), .unset, .unset, .unset] [.null, (.ref o)])) _
    refine XS.iloadN X0.here hx rfl (hb hby at_118) rfl ?_
    show Steps p.tables e below (T0.setTop (mkF m 119 #[.val (.int p1), .val (.int p2), .val (.int p3), .val (.int p4), .val (.int nn), .val (.int mm), .val (.int f1), .val (.int f2), .val (.ref o), .val (.int (0 : Int32)), .val (.int v2), .unset, .unset, .unset] [(.int p3), .null, (.ref o)])) _
    refine XS.iloadN X0.here hx rfl (hb hby at_119) rfl ?_
    show Steps p.tables e below (T0.setTop (mkF m 120 #[.val (.int p1), .val (.int p2), .val (.int p3), .val (.int p4), .val (.int nn), .val (.int mm), .val (.int f1), .val (.int f2), .val (.ref o), .val (.int (0 : Int32)), .val (.int v2), .unset, .unset, .unset] [(.int p3), (.int p3), .null, (.ref o)])) _
    refine XS.aconstNull X0.here hx rfl (hb hby at_120) ?_
    show Steps p.tables e below (T0.setTop (mkF m 121 #[.val (.int p1), .val (.int p2), .val (.int p3), .val (.int p4), .val (.int nn), .val (.int mm), .val (.int f1), .val (.int f2), .val (.ref o), .val (.int (0 : Int32)), .val (.int v2), .unset, .unset, .unset] [.null, (.int p3), (.int p3), .null, (.ref o)])) _
    refine st1.trans ?_
    exact kt

set_option maxRecDepth 65536 in
set_option maxHeartbeats 40000000 in
theorem own_s5 {p : Program} {l : Launch} {e : Env} {s : State} {m : MethodId} {args : Array Value} {below : List Frame} {meth : Method} {c : Code} {T0 : State} {locs : List Loc} {Z : State} {a0 : Array Value} {h0 : Heap} {n0 : Nat} (p1 p2 p3 p4 nn mm f1 f2 : Int32) (o d b : Addr) (v2 : Int32) (k fc k' : Int32)
    (X0 : Stand p l e room_1 s m args below meth c T0 locs 8 55) (hx : p.tables.exec = Jvm.exec) (hZ : Z.Warmed39 s.vm) (hw : ∀ d ∈ tables_1, d.before a0 Z = true) (hby : c.code = code) (hml : c.maxLocals = 14) (hown : s.vm.findClass "com/example/grelo/grelo/WriteQueueFlushPinLaw" = some m.cls) (e0 : T0.heap = h0) (Z0 : n0 ≤ h0.size) (N0 : Fr n0 locs) (g_o : n0 ≤ o) (g_d : n0 ≤ d) (g_b : n0 ≤ b) (ne_od : o ≠ d) (ne_ob : o ≠ b) (ne_db : d ≠ b) (S0 : own_St Z h0 o d b k (.int fc)) (hk' : k' = if f2 = (0 : Int32) then fc else own_sub k (0 : Int32) (17 : Int32)) :
    ∃ (T' : State) (h' : Heap) (locs' : List Loc), Stand p l e room_1 s m args below meth c T' locs' 8 55 ∧ T'.heap = h' ∧ Fr n0 locs' ∧ n0 ≤ h'.size ∧ own_St Z h' o d b k (.int k') ∧ ∀ t, Steps p.tables e below (T'.setTop (mkF m 134 #[.val (.int p1), .val (.int p2), .val (.int p3), .val (.int p4), .val (.int nn), .val (.int mm), .val (.int f1), .val (.int f2), .val (.ref o), .val (.int (0 : Int32)), .val (.int v2), .unset, .unset, .unset] [])) t → Steps p.tables e below (T0.setTop (mkF m 124 #[.val (.int p1), .val (.int p2), .val (.int p3), .val (.int p4), .val (.int nn), .val (.int mm), .val (.int f1), .val (.int f2), .val (.ref o), .val (.int (0 : Int32)), .val (.int v2), .unset, .unset, .unset] [])) t := by
  by_cases q : f2 = (0 : Int32)
  · rw [if_pos q] at hk'; subst hk'
    refine ⟨_, _, _, own_more X0 (by decide) (by decide), e0, N0, Z0, S0, fun t kt => ?_⟩
    show Steps p.tables e below (T0.setTop (mkF m 124 #[.val (.int p1), .val (.int p2), .val (.int p3), .val (.int p4), .val (.int nn), .val (.int mm), .val (.int f1), .val (.int f2), .val (.ref o), .val (.int (0 : Int32)), .val (.int v2), .unset, .unset, .unset] [])) _
    refine XS.iload X0.here hx rfl (hb hby at_124) rfl ?_
    show Steps p.tables e below (T0.setTop (mkF m 126 #[.val (.int p1), .val (.int p2), .val (.int p3), .val (.int p4), .val (.int nn), .val (.int mm), .val (.int f1), .val (.int f2), .val (.ref o), .val (.int (0 : Int32)), .val (.int v2), .unset, .unset, .unset] [(.int f2)])) _
    refine XS.ifYes X0.here hx rfl (pc0 := 126) (pc' := 134) rfl (hb hby at_126) rfl ((if0 _ _).trans (teq (q : f2 = (0 : Int32))).1) (by decide) (by decide) ?_
    exact kt
  · rw [if_neg q] at hk'; subst hk'
    have E_o := S0.1
    obtain ⟨cq1, kq1, q1a, q1b, q1c⟩ := isOf hZ e0 E_o
    obtain ⟨_, _, ⟨T1, L1, k1, n1⟩, -, X1, ⟨Lc1, hQ1, l1, y1, z1⟩, st1⟩ := X0.virtualBack hx (y := (⟨"com/example/grelo/grelo/WriteQueue", "flush", "()V"⟩ : MethodName)) (z := (⟨"com/example/grelo/grelo/WriteQueue", "flush", "()V"⟩ : MethodName)) hown (mvT hZ (hw _ (List.mem_of_getElem? (i := 38) rfl))) (mvT hZ (hw _ (List.mem_of_getElem? (i := 39) rfl))) (notFace_of_selects (args := #[]) (mvT hZ (hw _ (List.mem_of_getElem? (i := 41) rfl)))) (mvT hZ (hw _ (List.mem_of_getElem? (i := 41) rfl))) (mvT hZ (hw _ (List.mem_of_getElem? (i := 40) rfl))) (by decide) (backOf (W := 0) (rm6 l Z a0 hw [] o d b k (.int fc) h0 n0 Z0 g_o ne_od ne_ob S0) hZ (hw _ (List.mem_of_getElem? (i := 42) rfl)) (hw _ (List.mem_of_getElem? (i := 3) rfl)) (by decide) (by decide)) q1a q1c (g := (mkF m 131 #[.val (.int p1), .val (.int p2), .val (.int p3), .val (.int p4), .val (.int nn), .val (.int mm), .val (.int f1), .val (.int f2), .val (.ref o), .val (.int (0 : Int32)), .val (.int v2), .unset, .unset, .unset] [(.ref o)])) rfl (by rw [hml]; rfl) (Steps.refl _) (argsL := []) (rest := []) (lenOf pd_0 rfl) rfl (by show 2 * 0 + _ ≤ _; exact Nat.le_of_eq rfl) (hb hby at_131) (fun _ _ => ⟨rfl, e0, (by decide : 8 + 0 ≤ _), (by decide : 55 + 0 ≤ _)⟩)
    dsimp only [Pt.U, Pt.locs, Pt.cells, Pt.slots] at X1 l1 y1 z1 st1 hQ1
    subst l1 y1 z1
    obtain ⟨rfl, N1q, K1, S1⟩ := hQ1
    have N1 := Fr.app N0 N1q
    have E_o_h1 := (E_o.keep K1)
    have Z1 := (Nat.le_trans Z0 K1.1)
    refine ⟨_, _, _, X1, rfl, N1, Z1, S1, fun t kt => ?_⟩
    show Steps p.tables e below (T0.setTop (mkF m 124 #[.val (.int p1), .val (.int p2), .val (.int p3), .val (.int p4), .val (.int nn), .val (.int mm), .val (.int f1), .val (.int f2), .val (.ref o), .val (.int (0 : Int32)), .val (.int v2), .unset, .unset, .unset] [])) _
    refine XS.iload X0.here hx rfl (hb hby at_124) rfl ?_
    show Steps p.tables e below (T0.setTop (mkF m 126 #[.val (.int p1), .val (.int p2), .val (.int p3), .val (.int p4), .val (.int nn), .val (.int mm), .val (.int f1), .val (.int f2), .val (.ref o), .val (.int (0 : Int32)), .val (.int v2), .unset, .unset, .unset] [(.int f2)])) _
    refine XS.ifNo X0.here hx rfl (hb hby at_126) rfl ((if0 _ _).trans (feq (q : ¬ (f2 = (0 : Int32)))).1) ?_
    show Steps p.tables e below (T0.setTop (mkF m 129 #[.val (.int p1), .val (.int p2), .val (.int p3), .val (.int p4), .val (.int nn), .val (.int mm), .val (.int f1), .val (.int f2), .val (.ref o), .val (.int (0 : Int32)), .val (.int v2), .unset, .unset, .unset] [])) _
    refine XS.aload X0.here hx rfl (hb hby at_129) rfl rfl ?_
    show Steps p.tables e below (T0.setTop (mkF m 131 #[.val (.int p1), .val (.int p2), .val (.int p3), .val (.int p4), .val (.int nn), .val (.int mm), .val (.int f1), .val (.int f2), .val (.ref o), .val (.int (0 : Int32)), .val (.int v2), .unset, .unset, .unset] [(.ref o)])) _
    refine st1.trans ?_
    exact kt

theorem pd_6 : parseMethodDescriptor "()Z" = some ⟨[], some .boolean⟩ := by decide +kernel
theorem pn_5 : plainName "com/example/grelo/grelo/WriteQueueFlushPinLaw" = true := by first | (simp [plainName, overriddenIn]; done) | decide +kernel
theorem ef_0 (m : MethodId) (x0 : Int32) (x1 : Int32) (x2 : Int32) (x3 : Int32) : entryFrame m #[(.int x0), (.int x1), (.int x2), (.int x3)] maxLocals = mkF m 0 #[.val (.int x0), .val (.int x1), .val (.int x2), .val (.int x3), .unset, .unset, .unset, .unset, .unset, .unset, .unset, .unset, .unset, .unset] [] := by first | (simp [entryFrame, mkF, argsToLocals, Value.category, maxLocals]; done) | rfl
def Q0 (Z : State) (p1 : Int32) (p2 : Int32) (p3 : Int32) (p4 : Int32)  (h0 : Heap) (n0 : Nat) (v : Option Value) (h : Heap) (L : List Loc) : Prop := v = some (.int (1 : Int32)) ∧ Fr n0 L
set_option maxRecDepth 65536 in
set_option maxHeartbeats 40000000 in
theorem rm0 (l : Launch) (Z : State) (a0 : Array Value) (hw : ∀ d ∈ tables_1, d.before a0 Z = true) (ws : List Jvm.Cond) (p1 : Int32) (p2 : Int32) (p3 : Int32) (p4 : Int32)  (h0 : Heap) (n0 : Nat) (Z0 : n0 ≤ h0.size)  :
    MetFree l x (head1 (Jvm.Cond.code x code maxLocals ret :: ws) room_1) (fun a U => a = #[(.int p1), (.int p2), (.int p3), (.int p4)] ∧ Z.Warmed39 U.vm ∧ U.heap = h0) (fun _ _ _ _ _ => True) (fun _ U o U' => ∃ v L, o = .returned v ∧ Q0 Z p1 p2 p3 p4  h0 n0 v U'.heap L ∧ FrameEnd U o U' L room_1.cells room_1.slots) := by
  refine MetFree.of_bodySF (plainFor_of_name pn_5) hisR ?_
  intro p e s m args below meth c s₁ Bd hml0 hP hK
  obtain ⟨rfl, hZ, hh⟩ := hP
  have hx := Bd.exec
  have hby := Bd.bytes
  have hml : c.maxLocals = 14 := hml0
  have hown : s.vm.findClass "com/example/grelo/grelo/WriteQueueFlushPinLaw" = some m.cls := findClass_of_methodNamed Bd.named
  have hnm := (name_of_methodNamed Bd.named Bd.method).1
  have X0 : Stand p l e room_1 s m #[(.int p1), (.int p2), (.int p3), (.int p4)] below meth c s₁ [] 0 0 := Stand.of_body Bd
  have e0 : s₁.heap = h0 := by rw [← hh, Bd.state]; rfl
  have N0 := Fr.nil n0
  have pre0 : ∀ t, Steps p.tables e below (s₁.setTop (mkF m 0 #[.val (.int p1), .val (.int p2), .val (.int p3), .val (.int p4), .unset, .unset, .unset, .unset, .unset, .unset, .unset, .unset, .unset, .unset] [])) t → Steps p.tables e below (s₁.setTop (entryFrame m #[(.int p1), (.int p2), (.int p3), (.int p4)] maxLocals)) t := fun t k => castTop (ef_0 m p1 p2 p3 p4) k
  obtain ⟨nn, hnn⟩ : ∃ z : Int32, z = ((p1 &&& (2147483647 : Int32)) % (3 : Int32)) := ⟨_, rfl⟩
  have stg_nn : ∀ t, Steps p.tables e below (s₁.setTop (mkF m 8 #[.val (.int p1), .val (.int p2), .val (.int p3), .val (.int p4), .val (.int nn), .unset, .unset, .unset, .unset, .unset, .unset, .unset, .unset, .unset] [])) t → Steps p.tables e below (s₁.setTop (mkF m 8 #[.val (.int p1), .val (.int p2), .val (.int p3), .val (.int p4), .val (.int ((p1 &&& (2147483647 : Int32)) % (3 : Int32))), .unset, .unset, .unset, .unset, .unset, .unset, .unset, .unset, .unset] [])) t := by subst hnn; exact fun _ k => k
  obtain ⟨mm, hmm⟩ : ∃ z : Int32, z = (if (p2 &&& (1 : Int32)) = (0 : Int32) then (0 : Int32) else (1 : Int32)) := ⟨_, rfl⟩
  have st1 : ∀ t, Steps p.tables e below (s₁.setTop (mkF m 21 #[.val (.int p1), .val (.int p2), .val (.int p3), .val (.int p4), .val (.int nn), .val (.int mm), .unset, .unset, .unset, .unset, .unset, .unset, .unset, .unset] [])) t → Steps p.tables e below (s₁.setTop (mkF m 8 #[.val (.int p1), .val (.int p2), .val (.int p3), .val (.int p4), .val (.int nn), .unset, .unset, .unset, .unset, .unset, .unset, .unset, .unset, .unset] [])) t := by
    intro t k
    by_cases hcs1 : (p2 &&& (1 : Int32)) = (0 : Int32)
    · skip
      rw [if_pos hcs1] at hmm
      rw [hmm] at k
      show Steps p.tables e below (s₁.setTop (mkF m 8 #[.val (.int p1), .val (.int p2), .val (.int p3), .val (.int p4), .val (.int nn), .unset, .unset, .unset, .unset, .unset, .unset, .unset, .unset, .unset] [])) _
      refine XS.iloadN X0.here hx rfl (hb hby at_8) rfl ?_
      show Steps p.tables e below (s₁.setTop (mkF m 9 #[.val (.int p1), .val (.int p2), .val (.int p3), .val (.int p4), .val (.int nn), .unset, .unset, .unset, .unset, .unset, .unset, .unset, .unset, .unset] [(.int p2)])) _
      refine XS.iconst X0.here hx rfl (hb hby at_9) ?_
      show Steps p.tables e below (s₁.setTop (mkF m 10 #[.val (.int p1), .val (.int p2), .val (.int p3), .val (.int p4), .val (.int nn), .unset, .unset, .unset, .unset, .unset, .unset, .unset, .unset, .unset] [(.int (1 : Int32)), (.int p2)])) _
      refine XS.iand X0.here hx rfl (hb hby at_10) rfl ?_
      show Steps p.tables e below (s₁.setTop (mkF m 11 #[.val (.int p1), .val (.int p2), .val (.int p3), .val (.int p4), .val (.int nn), .unset, .unset, .unset, .unset, .unset, .unset, .unset, .unset, .unset] [(.int (p2 &&& (1 : Int32)))])) _
      refine XS.ifYes X0.here hx rfl (pc0 := 11) (pc' := 18) rfl (hb hby at_11) rfl ((if0 _ _).trans (teq hcs1).1) (by decide) (by decide) ?_
      show Steps p.tables e below (s₁.setTop (mkF m 18 #[.val (.int p1), .val (.int p2), .val (.int p3), .val (.int p4), .val (.int nn), .unset, .unset, .unset, .unset, .unset, .unset, .unset, .unset, .unset] [])) _
      refine XS.iconst X0.here hx rfl (hb hby at_18) ?_
      show Steps p.tables e below (s₁.setTop (mkF m 19 #[.val (.int p1), .val (.int p2), .val (.int p3), .val (.int p4), .val (.int nn), .unset, .unset, .unset, .unset, .unset, .unset, .unset, .unset, .unset] [(.int (0 : Int32))])) _
      refine XS.istore X0.here hx rfl (hb hby at_19) rfl (l' := #[.val (.int p1), .val (.int p2), .val (.int p3), .val (.int p4), .val (.int nn), .val (.int (0 : Int32)), .unset, .unset, .unset, .unset, .unset, .unset, .unset, .unset]) rfl ?_
      exact k
    · skip
      rw [if_neg hcs1] at hmm
      rw [hmm] at k
      show Steps p.tables e below (s₁.setTop (mkF m 8 #[.val (.int p1), .val (.int p2), .val (.int p3), .val (.int p4), .val (.int nn), .unset, .unset, .unset, .unset, .unset, .unset, .unset, .unset, .unset] [])) _
      refine XS.iloadN X0.here hx rfl (hb hby at_8) rfl ?_
      show Steps p.tables e below (s₁.setTop (mkF m 9 #[.val (.int p1), .val (.int p2), .val (.int p3), .val (.int p4), .val (.int nn), .unset, .unset, .unset, .unset, .unset, .unset, .unset, .unset, .unset] [(.int p2)])) _
      refine XS.iconst X0.here hx rfl (hb hby at_9) ?_
      show Steps p.tables e below (s₁.setTop (mkF m 10 #[.val (.int p1), .val (.int p2), .val (.int p3), .val (.int p4), .val (.int nn), .unset, .unset, .unset, .unset, .unset, .unset, .unset, .unset, .unset] [(.int (1 : Int32)), (.int p2)])) _
      refine XS.iand X0.here hx rfl (hb hby at_10) rfl ?_
      show Steps p.tables e below (s₁.setTop (mkF m 11 #[.val (.int p1), .val (.int p2), .val (.int p3), .val (.int p4), .val (.int nn), .unset, .unset, .unset, .unset, .unset, .unset, .unset, .unset, .unset] [(.int (p2 &&& (1 : Int32)))])) _
      refine XS.ifNo X0.here hx rfl (hb hby at_11) rfl ((if0 _ _).trans (feq hcs1).1) ?_
      show Steps p.tables e below (s₁.setTop (mkF m 14 #[.val (.int p1), .val (.int p2), .val (.int p3), .val (.int p4), .val (.int nn), .unset, .unset, .unset, .unset, .unset, .unset, .unset, .unset, .unset] [])) _
      refine XS.iconst X0.here hx rfl (hb hby at_14) ?_
      show Steps p.tables e below (s₁.setTop (mkF m 15 #[.val (.int p1), .val (.int p2), .val (.int p3), .val (.int p4), .val (.int nn), .unset, .unset, .unset, .unset, .unset, .unset, .unset, .unset, .unset] [(.int (1 : Int32))])) _
      refine XS.goto X0.here hx rfl (pc0 := 15) (pc' := 19) rfl (hb hby at_15) (by decide) (by decide) ?_
      show Steps p.tables e below (s₁.setTop (mkF m 19 #[.val (.int p1), .val (.int p2), .val (.int p3), .val (.int p4), .val (.int nn), .unset, .unset, .unset, .unset, .unset, .unset, .unset, .unset, .unset] [(.int (1 : Int32))])) _
      refine XS.istore X0.here hx rfl (hb hby at_19) rfl (l' := #[.val (.int p1), .val (.int p2), .val (.int p3), .val (.int p4), .val (.int nn), .val (.int (1 : Int32)), .unset, .unset, .unset, .unset, .unset, .unset, .unset, .unset]) rfl ?_
      exact k
  obtain ⟨f1, hf1⟩ : ∃ z : Int32, z = (if (p2 &&& (2 : Int32)) = (0 : Int32) then (0 : Int32) else (1 : Int32)) := ⟨_, rfl⟩
  have st2 : ∀ t, Steps p.tables e below (s₁.setTop (mkF m 34 #[.val (.int p1), .val (.int p2), .val (.int p3), .val (.int p4), .val (.int nn), .val (.int mm), .val (.int f1), .unset, .unset, .unset, .unset, .unset, .unset, .unset] [])) t → Steps p.tables e below (s₁.setTop (mkF m 21 #[.val (.int p1), .val (.int p2), .val (.int p3), .val (.int p4), .val (.int nn), .val (.int mm), .unset, .unset, .unset, .unset, .unset, .unset, .unset, .unset] [])) t := by
    intro t k
    by_cases hcs1 : (p2 &&& (2 : Int32)) = (0 : Int32)
    · skip
      rw [if_pos hcs1] at hf1
      rw [hf1] at k
      show Steps p.tables e below (s₁.setTop (mkF m 21 #[.val (.int p1), .val (.int p2), .val (.int p3), .val (.int p4), .val (.int nn), .val (.int mm), .unset, .unset, .unset, .unset, .unset, .unset, .unset, .unset] [])) _
      refine XS.iloadN X0.here hx rfl (hb hby at_21) rfl ?_
      show Steps p.tables e below (s₁.setTop (mkF m 22 #[.val (.int p1), .val (.int p2), .val (.int p3), .val (.int p4), .val (.int nn), .val (.int mm), .unset, .unset, .unset, .unset, .unset, .unset, .unset, .unset] [(.int p2)])) _
      refine XS.iconst X0.here hx rfl (hb hby at_22) ?_
      show Steps p.tables e below (s₁.setTop (mkF m 23 #[.val (.int p1), .val (.int p2), .val (.int p3), .val (.int p4), .val (.int nn), .val (.int mm), .unset, .unset, .unset, .unset, .unset, .unset, .unset, .unset] [(.int (2 : Int32)), (.int p2)])) _
      refine XS.iand X0.here hx rfl (hb hby at_23) rfl ?_
      show Steps p.tables e below (s₁.setTop (mkF m 24 #[.val (.int p1), .val (.int p2), .val (.int p3), .val (.int p4), .val (.int nn), .val (.int mm), .unset, .unset, .unset, .unset, .unset, .unset, .unset, .unset] [(.int (p2 &&& (2 : Int32)))])) _
      refine XS.ifYes X0.here hx rfl (pc0 := 24) (pc' := 31) rfl (hb hby at_24) rfl ((if0 _ _).trans (teq hcs1).1) (by decide) (by decide) ?_
      show Steps p.tables e below (s₁.setTop (mkF m 31 #[.val (.int p1), .val (.int p2), .val (.int p3), .val (.int p4), .val (.int nn), .val (.int mm), .unset, .unset, .unset, .unset, .unset, .unset, .unset, .unset] [])) _
      refine XS.iconst X0.here hx rfl (hb hby at_31) ?_
      show Steps p.tables e below (s₁.setTop (mkF m 32 #[.val (.int p1), .val (.int p2), .val (.int p3), .val (.int p4), .val (.int nn), .val (.int mm), .unset, .unset, .unset, .unset, .unset, .unset, .unset, .unset] [(.int (0 : Int32))])) _
      refine XS.istore X0.here hx rfl (hb hby at_32) rfl (l' := #[.val (.int p1), .val (.int p2), .val (.int p3), .val (.int p4), .val (.int nn), .val (.int mm), .val (.int (0 : Int32)), .unset, .unset, .unset, .unset, .unset, .unset, .unset]) rfl ?_
      exact k
    · skip
      rw [if_neg hcs1] at hf1
      rw [hf1] at k
      show Steps p.tables e below (s₁.setTop (mkF m 21 #[.val (.int p1), .val (.int p2), .val (.int p3), .val (.int p4), .val (.int nn), .val (.int mm), .unset, .unset, .unset, .unset, .unset, .unset, .unset, .unset] [])) _
      refine XS.iloadN X0.here hx rfl (hb hby at_21) rfl ?_
      show Steps p.tables e below (s₁.setTop (mkF m 22 #[.val (.int p1), .val (.int p2), .val (.int p3), .val (.int p4), .val (.int nn), .val (.int mm), .unset, .unset, .unset, .unset, .unset, .unset, .unset, .unset] [(.int p2)])) _
      refine XS.iconst X0.here hx rfl (hb hby at_22) ?_
      show Steps p.tables e below (s₁.setTop (mkF m 23 #[.val (.int p1), .val (.int p2), .val (.int p3), .val (.int p4), .val (.int nn), .val (.int mm), .unset, .unset, .unset, .unset, .unset, .unset, .unset, .unset] [(.int (2 : Int32)), (.int p2)])) _
      refine XS.iand X0.here hx rfl (hb hby at_23) rfl ?_
      show Steps p.tables e below (s₁.setTop (mkF m 24 #[.val (.int p1), .val (.int p2), .val (.int p3), .val (.int p4), .val (.int nn), .val (.int mm), .unset, .unset, .unset, .unset, .unset, .unset, .unset, .unset] [(.int (p2 &&& (2 : Int32)))])) _
      refine XS.ifNo X0.here hx rfl (hb hby at_24) rfl ((if0 _ _).trans (feq hcs1).1) ?_
      show Steps p.tables e below (s₁.setTop (mkF m 27 #[.val (.int p1), .val (.int p2), .val (.int p3), .val (.int p4), .val (.int nn), .val (.int mm), .unset, .unset, .unset, .unset, .unset, .unset, .unset, .unset] [])) _
      refine XS.iconst X0.here hx rfl (hb hby at_27) ?_
      show Steps p.tables e below (s₁.setTop (mkF m 28 #[.val (.int p1), .val (.int p2), .val (.int p3), .val (.int p4), .val (.int nn), .val (.int mm), .unset, .unset, .unset, .unset, .unset, .unset, .unset, .unset] [(.int (1 : Int32))])) _
      refine XS.goto X0.here hx rfl (pc0 := 28) (pc' := 32) rfl (hb hby at_28) (by decide) (by decide) ?_
      show Steps p.tables e below (s₁.setTop (mkF m 32 #[.val (.int p1), .val (.int p2), .val (.int p3), .val (.int p4), .val (.int nn), .val (.int mm), .unset, .unset, .unset, .unset, .unset, .unset, .unset, .unset] [(.int (1 : Int32))])) _
      refine XS.istore X0.here hx rfl (hb hby at_32) rfl (l' := #[.val (.int p1), .val (.int p2), .val (.int p3), .val (.int p4), .val (.int nn), .val (.int mm), .val (.int (1 : Int32)), .unset, .unset, .unset, .unset, .unset, .unset, .unset]) rfl ?_
      exact k
  obtain ⟨f2, hf2⟩ : ∃ z : Int32, z = (if (p2 &&& (4 : Int32)) = (0 : Int32) then (0 : Int32) else (1 : Int32)) := ⟨_, rfl⟩
  have st3 : ∀ t, Steps p.tables e below (s₁.setTop (mkF m 47 #[.val (.int p1), .val (.int p2), .val (.int p3), .val (.int p4), .val (.int nn), .val (.int mm), .val (.int f1), .val (.int f2), .unset, .unset, .unset, .unset, .unset, .unset] [])) t → Steps p.tables e below (s₁.setTop (mkF m 34 #[.val (.int p1), .val (.int p2), .val (.int p3), .val (.int p4), .val (.int nn), .val (.int mm), .val (.int f1), .unset, .unset, .unset, .unset, .unset, .unset, .unset] [])) t := by
    intro t k
    by_cases hcs1 : (p2 &&& (4 : Int32)) = (0 : Int32)
    · skip
      rw [if_pos hcs1] at hf2
      rw [hf2] at k
      show Steps p.tables e below (s₁.setTop (mkF m 34 #[.val (.int p1), .val (.int p2), .val (.int p3), .val (.int p4), .val (.int nn), .val (.int mm), .val (.int f1), .unset, .unset, .unset, .unset, .unset, .unset, .unset] [])) _
      refine XS.iloadN X0.here hx rfl (hb hby at_34) rfl ?_
      show Steps p.tables e below (s₁.setTop (mkF m 35 #[.val (.int p1), .val (.int p2), .val (.int p3), .val (.int p4), .val (.int nn), .val (.int mm), .val (.int f1), .unset, .unset, .unset, .unset, .unset, .unset, .unset] [(.int p2)])) _
      refine XS.iconst X0.here hx rfl (hb hby at_35) ?_
      show Steps p.tables e below (s₁.setTop (mkF m 36 #[.val (.int p1), .val (.int p2), .val (.int p3), .val (.int p4), .val (.int nn), .val (.int mm), .val (.int f1), .unset, .unset, .unset, .unset, .unset, .unset, .unset] [(.int (4 : Int32)), (.int p2)])) _
      refine XS.iand X0.here hx rfl (hb hby at_36) rfl ?_
      show Steps p.tables e below (s₁.setTop (mkF m 37 #[.val (.int p1), .val (.int p2), .val (.int p3), .val (.int p4), .val (.int nn), .val (.int mm), .val (.int f1), .unset, .unset, .unset, .unset, .unset, .unset, .unset] [(.int (p2 &&& (4 : Int32)))])) _
      refine XS.ifYes X0.here hx rfl (pc0 := 37) (pc' := 44) rfl (hb hby at_37) rfl ((if0 _ _).trans (teq hcs1).1) (by decide) (by decide) ?_
      show Steps p.tables e below (s₁.setTop (mkF m 44 #[.val (.int p1), .val (.int p2), .val (.int p3), .val (.int p4), .val (.int nn), .val (.int mm), .val (.int f1), .unset, .unset, .unset, .unset, .unset, .unset, .unset] [])) _
      refine XS.iconst X0.here hx rfl (hb hby at_44) ?_
      show Steps p.tables e below (s₁.setTop (mkF m 45 #[.val (.int p1), .val (.int p2), .val (.int p3), .val (.int p4), .val (.int nn), .val (.int mm), .val (.int f1), .unset, .unset, .unset, .unset, .unset, .unset, .unset] [(.int (0 : Int32))])) _
      refine XS.istore X0.here hx rfl (hb hby at_45) rfl (l' := #[.val (.int p1), .val (.int p2), .val (.int p3), .val (.int p4), .val (.int nn), .val (.int mm), .val (.int f1), .val (.int (0 : Int32)), .unset, .unset, .unset, .unset, .unset, .unset]) rfl ?_
      exact k
    · skip
      rw [if_neg hcs1] at hf2
      rw [hf2] at k
      show Steps p.tables e below (s₁.setTop (mkF m 34 #[.val (.int p1), .val (.int p2), .val (.int p3), .val (.int p4), .val (.int nn), .val (.int mm), .val (.int f1), .unset, .unset, .unset, .unset, .unset, .unset, .unset] [])) _
      refine XS.iloadN X0.here hx rfl (hb hby at_34) rfl ?_
      show Steps p.tables e below (s₁.setTop (mkF m 35 #[.val (.int p1), .val (.int p2), .val (.int p3), .val (.int p4), .val (.int nn), .val (.int mm), .val (.int f1), .unset, .unset, .unset, .unset, .unset, .unset, .unset] [(.int p2)])) _
      refine XS.iconst X0.here hx rfl (hb hby at_35) ?_
      show Steps p.tables e below (s₁.setTop (mkF m 36 #[.val (.int p1), .val (.int p2), .val (.int p3), .val (.int p4), .val (.int nn), .val (.int mm), .val (.int f1), .unset, .unset, .unset, .unset, .unset, .unset, .unset] [(.int (4 : Int32)), (.int p2)])) _
      refine XS.iand X0.here hx rfl (hb hby at_36) rfl ?_
      show Steps p.tables e below (s₁.setTop (mkF m 37 #[.val (.int p1), .val (.int p2), .val (.int p3), .val (.int p4), .val (.int nn), .val (.int mm), .val (.int f1), .unset, .unset, .unset, .unset, .unset, .unset, .unset] [(.int (p2 &&& (4 : Int32)))])) _
      refine XS.ifNo X0.here hx rfl (hb hby at_37) rfl ((if0 _ _).trans (feq hcs1).1) ?_
      show Steps p.tables e below (s₁.setTop (mkF m 40 #[.val (.int p1), .val (.int p2), .val (.int p3), .val (.int p4), .val (.int nn), .val (.int mm), .val (.int f1), .unset, .unset, .unset, .unset, .unset, .unset, .unset] [])) _
      refine XS.iconst X0.here hx rfl (hb hby at_40) ?_
      show Steps p.tables e below (s₁.setTop (mkF m 41 #[.val (.int p1), .val (.int p2), .val (.int p3), .val (.int p4), .val (.int nn), .val (.int mm), .val (.int f1), .unset, .unset, .unset, .unset, .unset, .unset, .unset] [(.int (1 : Int32))])) _
      refine XS.goto X0.here hx rfl (pc0 := 41) (pc' := 45) rfl (hb hby at_41) (by decide) (by decide) ?_
      show Steps p.tables e below (s₁.setTop (mkF m 45 #[.val (.int p1), .val (.int p2), .val (.int p3), .val (.int p4), .val (.int nn), .val (.int mm), .val (.int f1), .unset, .unset, .unset, .unset, .unset, .unset, .unset] [(.int (1 : Int32))])) _
      refine XS.istore X0.here hx rfl (hb hby at_45) rfl (l' := #[.val (.int p1), .val (.int p2), .val (.int p3), .val (.int p4), .val (.int nn), .val (.int mm), .val (.int f1), .val (.int (1 : Int32)), .unset, .unset, .unset, .unset, .unset, .unset]) rfl ?_
      exact k
  have gn := own_n hnn
  have gm := own_01 hmm
  have gf := own_01 hf1
  have gg := own_01 hf2
  obtain ⟨k1, k2, fc1, k3, fc2, e1', e2', e3', e4', e5', c0, c1, c2, c3⟩ := own_plain gn gm gf gg
  obtain ⟨T4, h4, X4, e4, E4, A4, D4, -, st4⟩ := newO X0 hx hZ hown (hw _ (List.mem_of_getElem? (i := 1) rfl)) (hw _ (List.mem_of_getElem? (i := 2) rfl)) (hw _ (List.mem_of_getElem? (i := 3) rfl)) e0 (g := (mkF m 47 #[.val (.int p1), .val (.int p2), .val (.int p3), .val (.int p4), .val (.int nn), .val (.int mm), .val (.int f1), .val (.int f2), .unset, .unset, .unset, .unset, .unset, .unset] [])) rfl (hb hby at_47) (by decide) (by decide)
  obtain ⟨o, g4⟩ : ∃ z, z = h0.size := ⟨_, rfl⟩
  rw [← g4] at A4 D4 st4
  have g_o : n0 ≤ o := Nat.le_trans Z0 (Nat.le_of_eq g4.symm)
  have Z4 := (Nat.le_trans Z0 E4.1)
  have F_writes_o : Fld Z h4 o "com/example/grelo/grelo/WriteQueue" "writes" "Ljava/util/ArrayDeque;" .null := D4 (Or.inr (hw _ (List.mem_of_getElem? (i := 28) rfl))) (ty := (.object "java/util/ArrayDeque")) (by decide)
  have F_sent_o : Fld Z h4 o "com/example/grelo/grelo/WriteQueue" "sent" "Ljava/util/ArrayDeque;" .null := D4 (Or.inr (hw _ (List.mem_of_getElem? (i := 30) rfl))) (ty := (.object "java/util/ArrayDeque")) (by decide)
  have F_flushedCount_o : Fld Z h4 o "com/example/grelo/grelo/WriteQueue" "flushedCount" "I" (.int (0 : Int32)) := D4 (Or.inl (hw _ (List.mem_of_getElem? (i := 37) rfl))) (ty := .int) (by decide)
  obtain ⟨_, _, ⟨T5, L5, k5, n5⟩, -, X5, ⟨Lc5, hQ5, l5, y5, z5⟩, st5⟩ := X4.specialBack hx (y := (⟨"com/example/grelo/grelo/WriteQueue", "<init>", "()V"⟩ : MethodName)) rfl hown (mvT hZ (hw _ (List.mem_of_getElem? (i := 4) rfl))) (mvT hZ (hw _ (List.mem_of_getElem? (i := 5) rfl))) (mvT hZ (hw _ (List.mem_of_getElem? (i := 6) rfl))) (by decide) (backOf (W := 1) (rm1 l Z a0 hw [] o .null .null (.int (0 : Int32)) h4 n0 Z4 g_o A4 F_writes_o F_sent_o F_flushedCount_o) hZ (hw _ (List.mem_of_getElem? (i := 6) rfl)) (hw _ (List.mem_of_getElem? (i := 3) rfl)) (by decide) (by decide)) (g := (mkF m 51 #[.val (.int p1), .val (.int p2), .val (.int p3), .val (.int p4), .val (.int nn), .val (.int mm), .val (.int f1), .val (.int f2), .unset, .unset, .unset, .unset, .unset, .unset] [(.ref o), (.ref o)])) rfl (by rw [hml]; rfl) (Steps.refl _) (a := o) (argsL := []) (rest := [(.ref o)]) (lenOf pd_0 rfl) rfl (by show 2 * 0 + _ ≤ _; exact Nat.le_of_eq rfl) (hb hby at_51) (fun _ _ => ⟨rfl, e4, (by decide : 1 + 4 ≤ _), (by decide : 3 + 40 ≤ _)⟩)
  dsimp only [Pt.U, Pt.locs, Pt.cells, Pt.slots] at X5 l5 y5 z5 st5 hQ5
  subst l5 y5 z5
  obtain ⟨rfl, N5q, K5, d, b, g_d, g_b, z_d, z_b, ne_db, S5⟩ := hQ5
  have N5 := Fr.app N0 N5q
  have A4_h5 := (A4.keep K5)
  have Z5 := (Nat.le_trans Z4 K5.1)
  have ne_od : o ≠ d := Nat.ne_of_lt (Nat.lt_of_lt_of_le A4.lt z_d)
  have ne_ob : o ≠ b := Nat.ne_of_lt (Nat.lt_of_lt_of_le A4.lt z_b)
  obtain ⟨T6, h6, L6, X6, e6, N6, Z6, S6, st6⟩ := own_s1 p1 p2 p3 p4 nn mm f1 f2 o d b (0 : Int32) k1 (0 : Int32) X5 hx hZ hw hby hml hown rfl Z5 N5 g_o g_d g_b ne_od ne_ob ne_db S5 c0.1 c0.2 e1'
  obtain ⟨T7, h7, L7, X7, e7, N7, Z7, S7, st7⟩ := own_s2 p1 p2 p3 p4 nn mm f1 f2 o d b k1 k2 (0 : Int32) X6 hx hZ hw hby hml hown e6 Z6 N6 g_o g_d g_b ne_od ne_ob ne_db S6 c1.1 c1.2 e2'
  obtain ⟨cq8, kq8, q8a, q8b, q8c⟩ := isOf hZ e7 S7.1
  obtain ⟨_, _, ⟨T8, L8, k8, n8⟩, -, X8, ⟨Lc8, hQ8, l8, y8, z8⟩, st8⟩ := X7.virtualBack hx (y := (⟨"com/example/grelo/grelo/WriteQueue", "hasFlushed", "()Z"⟩ : MethodName)) (z := (⟨"com/example/grelo/grelo/WriteQueue", "hasFlushed", "()Z"⟩ : MethodName)) hown (mvT hZ (hw _ (List.mem_of_getElem? (i := 31) rfl))) (mvT hZ (hw _ (List.mem_of_getElem? (i := 32) rfl))) (notFace_of_selects (args := #[]) (mvT hZ (hw _ (List.mem_of_getElem? (i := 34) rfl)))) (mvT hZ (hw _ (List.mem_of_getElem? (i := 34) rfl))) (mvT hZ (hw _ (List.mem_of_getElem? (i := 33) rfl))) (by decide) (backOf (W := 0) (rm5 l Z a0 hw [] o (0 : Int32) h7 n0 Z7 S7.2.2.1) hZ (hw _ (List.mem_of_getElem? (i := 35) rfl)) (hw _ (List.mem_of_getElem? (i := 3) rfl)) (by decide) (by decide)) q8a q8c (g := (mkF m 88 #[.val (.int p1), .val (.int p2), .val (.int p3), .val (.int p4), .val (.int nn), .val (.int mm), .val (.int f1), .val (.int f2), .val (.ref o), .unset, .unset, .unset, .unset, .unset] [(.ref o)])) rfl (by rw [hml]; rfl) (Steps.refl _) (argsL := []) (rest := []) (lenOf pd_6 rfl) rfl (by show 2 * 0 + _ ≤ _; exact Nat.le_of_eq rfl) (hb hby at_88) (fun _ _ => ⟨rfl, e7, (by decide : 7 + 0 ≤ _), (by decide : 51 + 0 ≤ _)⟩)
  dsimp only [Pt.U, Pt.locs, Pt.cells, Pt.slots] at X8 l8 y8 z8 st8 hQ8
  subst l8 y8 z8
  obtain ⟨rfl, N8q, e8⟩ := hQ8
  have N8 := Fr.app N7 N8q
  have stz : ∀ t, Steps p.tables e below (T8.setTop (mkF m 93 #[.val (.int p1), .val (.int p2), .val (.int p3), .val (.int p4), .val (.int nn), .val (.int mm), .val (.int f1), .val (.int f2), .val (.ref o), .val (.int (0 : Int32)), .unset, .unset, .unset, .unset] [])) t → Steps p.tables e below (T8.setTop (mkF m 93 #[.val (.int p1), .val (.int p2), .val (.int p3), .val (.int p4), .val (.int nn), .val (.int mm), .val (.int f1), .val (.int f2), .val (.ref o), .val (.int (own_has (0 : Int32))), .unset, .unset, .unset, .unset] [])) t := by rw [show own_has (0 : Int32) = (0 : Int32) from by decide]; exact fun _ k => k
  obtain ⟨T9, h9, L9, X9, e9, N9, Z9, S9, st9⟩ := own_s3 p1 p2 p3 p4 nn mm f1 f2 o d b k2 (0 : Int32) fc1 X8 hx hZ hw hby hml hown e8 Z7 N8 g_o g_d g_b ne_od ne_ob ne_db S7 e3'
  obtain ⟨cq10, kq10, q10a, q10b, q10c⟩ := isOf hZ e9 S9.1
  obtain ⟨_, _, ⟨T10, L10, k10, n10⟩, -, X10, ⟨Lc10, hQ10, l10, y10, z10⟩, st10⟩ := X9.virtualBack hx (y := (⟨"com/example/grelo/grelo/WriteQueue", "hasFlushed", "()Z"⟩ : MethodName)) (z := (⟨"com/example/grelo/grelo/WriteQueue", "hasFlushed", "()Z"⟩ : MethodName)) hown (mvT hZ (hw _ (List.mem_of_getElem? (i := 31) rfl))) (mvT hZ (hw _ (List.mem_of_getElem? (i := 32) rfl))) (notFace_of_selects (args := #[]) (mvT hZ (hw _ (List.mem_of_getElem? (i := 34) rfl)))) (mvT hZ (hw _ (List.mem_of_getElem? (i := 34) rfl))) (mvT hZ (hw _ (List.mem_of_getElem? (i := 33) rfl))) (by decide) (backOf (W := 0) (rm5 l Z a0 hw [] o fc1 h9 n0 Z9 S9.2.2.1) hZ (hw _ (List.mem_of_getElem? (i := 35) rfl)) (hw _ (List.mem_of_getElem? (i := 3) rfl)) (by decide) (by decide)) q10a q10c (g := (mkF m 105 #[.val (.int p1), .val (.int p2), .val (.int p3), .val (.int p4), .val (.int nn), .val (.int mm), .val (.int f1), .val (.int f2), .val (.ref o), .val (.int (0 : Int32)), .unset, .unset, .unset, .unset] [(.ref o)])) rfl (by rw [hml]; rfl) (Steps.refl _) (argsL := []) (rest := []) (lenOf pd_6 rfl) rfl (by show 2 * 0 + _ ≤ _; exact Nat.le_of_eq rfl) (hb hby at_105) (fun _ _ => ⟨rfl, e9, (by decide : 7 + 0 ≤ _), (by decide : 51 + 0 ≤ _)⟩)
  dsimp only [Pt.U, Pt.locs, Pt.cells, Pt.slots] at X10 l10 y10 z10 st10 hQ10
  subst l10 y10 z10
  obtain ⟨rfl, N10q, e10⟩ := hQ10
  have N10 := Fr.app N9 N10q
  obtain ⟨v2, hv2⟩ : ∃ z : Int32, z = (own_has fc1) := ⟨_, rfl⟩
  have stg_v2 : ∀ t, Steps p.tables e below (T10.setTop (mkF m 110 #[.val (.int p1), .val (.int p2), .val (.int p3), .val (.int p4), .val (.int nn), .val (.int mm), .val (.int f1), .val (.int f2), .val (.ref o), .val (.int (0 : Int32)), .val (.int v2), .unset, .unset, .unset] [])) t → Steps p.tables e below (T10.setTop (mkF m 110 #[.val (.int p1), .val (.int p2), .val (.int p3), .val (.int p4), .val (.int nn), .val (.int mm), .val (.int f1), .val (.int f2), .val (.ref o), .val (.int (0 : Int32)), .val (.int (own_has fc1)), .unset, .unset, .unset] [])) t := by subst hv2; exact fun _ k => k
  obtain ⟨T11, h11, L11, X11, e11, N11, Z11, S11, st11⟩ := own_s4 p1 p2 p3 p4 nn mm f1 f2 o d b v2 k2 k3 fc1 X10 hx hZ hw hby hml hown e10 Z9 N10 g_o g_d g_b ne_od ne_ob ne_db S9 c2.1 c2.2 e4'
  obtain ⟨T12, h12, L12, X12, e12, N12, Z12, S12, st12⟩ := own_s5 p1 p2 p3 p4 nn mm f1 f2 o d b v2 k3 fc1 fc2 X11 hx hZ hw hby hml hown e11 Z11 N11 g_o g_d g_b ne_od ne_ob ne_db S11 e5'
  obtain ⟨cq13, kq13, q13a, q13b, q13c⟩ := isOf hZ e12 S12.1
  obtain ⟨_, _, ⟨T13, L13, k13, n13⟩, -, X13, ⟨Lc13, hQ13, l13, y13, z13⟩, st13⟩ := X12.virtualBack hx (y := (⟨"com/example/grelo/grelo/WriteQueue", "hasFlushed", "()Z"⟩ : MethodName)) (z := (⟨"com/example/grelo/grelo/WriteQueue", "hasFlushed", "()Z"⟩ : MethodName)) hown (mvT hZ (hw _ (List.mem_of_getElem? (i := 31) rfl))) (mvT hZ (hw _ (List.mem_of_getElem? (i := 32) rfl))) (notFace_of_selects (args := #[]) (mvT hZ (hw _ (List.mem_of_getElem? (i := 34) rfl)))) (mvT hZ (hw _ (List.mem_of_getElem? (i := 34) rfl))) (mvT hZ (hw _ (List.mem_of_getElem? (i := 33) rfl))) (by decide) (backOf (W := 0) (rm5 l Z a0 hw [] o fc2 h12 n0 Z12 S12.2.2.1) hZ (hw _ (List.mem_of_getElem? (i := 35) rfl)) (hw _ (List.mem_of_getElem? (i := 3) rfl)) (by decide) (by decide)) q13a q13c (g := (mkF m 136 #[.val (.int p1), .val (.int p2), .val (.int p3), .val (.int p4), .val (.int nn), .val (.int mm), .val (.int f1), .val (.int f2), .val (.ref o), .val (.int (0 : Int32)), .val (.int v2), .unset, .unset, .unset] [(.ref o)])) rfl (by rw [hml]; rfl) (Steps.refl _) (argsL := []) (rest := []) (lenOf pd_6 rfl) rfl (by show 2 * 0 + _ ≤ _; exact Nat.le_of_eq rfl) (hb hby at_136) (fun _ _ => ⟨rfl, e12, (by decide : 8 + 0 ≤ _), (by decide : 55 + 0 ≤ _)⟩)
  dsimp only [Pt.U, Pt.locs, Pt.cells, Pt.slots] at X13 l13 y13 z13 st13 hQ13
  subst l13 y13 z13
  obtain ⟨rfl, N13q, e13⟩ := hQ13
  have N13 := Fr.app N12 N13q
  obtain ⟨ev2, hev2⟩ : ∃ z : Int32, z = (if f1 = (0 : Int32) then (0 : Int32) else (if (0 : Int32) < nn then (1 : Int32) else (0 : Int32))) := ⟨_, rfl⟩
  have st14 : ∀ t, Steps p.tables e below (T13.setTop (mkF m 158 #[.val (.int p1), .val (.int p2), .val (.int p3), .val (.int p4), .val (.int nn), .val (.int mm), .val (.int f1), .val (.int f2), .val (.ref o), .val (.int (0 : Int32)), .val (.int v2), .val (.int (own_has fc2)), .val (.int ev2), .unset] [])) t → Steps p.tables e below (T13.setTop (mkF m 141 #[.val (.int p1), .val (.int p2), .val (.int p3), .val (.int p4), .val (.int nn), .val (.int mm), .val (.int f1), .val (.int f2), .val (.ref o), .val (.int (0 : Int32)), .val (.int v2), .val (.int (own_has fc2)), .unset, .unset] [])) t := by
    intro t k
    by_cases hcs1 : f1 = (0 : Int32)
    · skip
      rw [if_pos hcs1] at hev2
      rw [hev2] at k
      show Steps p.tables e below (T13.setTop (mkF m 141 #[.val (.int p1), .val (.int p2), .val (.int p3), .val (.int p4), .val (.int nn), .val (.int mm), .val (.int f1), .val (.int f2), .val (.ref o), .val (.int (0 : Int32)), .val (.int v2), .val (.int (own_has fc2)), .unset, .unset] [])) _
      refine XS.iload X13.here hx rfl (hb hby at_141) rfl ?_
      show Steps p.tables e below (T13.setTop (mkF m 143 #[.val (.int p1), .val (.int p2), .val (.int p3), .val (.int p4), .val (.int nn), .val (.int mm), .val (.int f1), .val (.int f2), .val (.ref o), .val (.int (0 : Int32)), .val (.int v2), .val (.int (own_has fc2)), .unset, .unset] [(.int f1)])) _
      refine XS.ifYes X13.here hx rfl (pc0 := 143) (pc' := 155) rfl (hb hby at_143) rfl ((if0 _ _).trans (teq hcs1).1) (by decide) (by decide) ?_
      show Steps p.tables e below (T13.setTop (mkF m 155 #[.val (.int p1), .val (.int p2), .val (.int p3), .val (.int p4), .val (.int nn), .val (.int mm), .val (.int f1), .val (.int f2), .val (.ref o), .val (.int (0 : Int32)), .val (.int v2), .val (.int (own_has fc2)), .unset, .unset] [])) _
      refine XS.iconst X13.here hx rfl (hb hby at_155) ?_
      show Steps p.tables e below (T13.setTop (mkF m 156 #[.val (.int p1), .val (.int p2), .val (.int p3), .val (.int p4), .val (.int nn), .val (.int mm), .val (.int f1), .val (.int f2), .val (.ref o), .val (.int (0 : Int32)), .val (.int v2), .val (.int (own_has fc2)), .unset, .unset] [(.int (0 : Int32))])) _
      refine XS.istore X13.here hx rfl (hb hby at_156) rfl (l' := #[.val (.int p1), .val (.int p2), .val (.int p3), .val (.int p4), .val (.int nn), .val (.int mm), .val (.int f1), .val (.int f2), .val (.ref o), .val (.int (0 : Int32)), .val (.int v2), .val (.int (own_has fc2)), .val (.int (0 : Int32)), .unset]) rfl ?_
      exact k
    · skip
      by_cases hcs2 : (0 : Int32) < nn
      · skip
        rw [if_neg hcs1, if_pos hcs2] at hev2
        rw [hev2] at k
        show Steps p.tables e below (T13.setTop (mkF m 141 #[.val (.int p1), .val (.int p2), .val (.int p3), .val (.int p4), .val (.int nn), .val (.int mm), .val (.int f1), .val (.int f2), .val (.ref o), .val (.int (0 : Int32)), .val (.int v2), .val (.int (own_has fc2)), .unset, .unset] [])) _
        refine XS.iload X13.here hx rfl (hb hby at_141) rfl ?_
        show Steps p.tables e below (T13.setTop (mkF m 143 #[.val (.int p1), .val (.int p2), .val (.int p3), .val (.int p4), .val (.int nn), .val (.int mm), .val (.int f1), .val (.int f2), .val (.ref o), .val (.int (0 : Int32)), .val (.int v2), .val (.int (own_has fc2)), .unset, .unset] [(.int f1)])) _
        refine XS.ifNo X13.here hx rfl (hb hby at_143) rfl ((if0 _ _).trans (feq hcs1).1) ?_
        show Steps p.tables e below (T13.setTop (mkF m 146 #[.val (.int p1), .val (.int p2), .val (.int p3), .val (.int p4), .val (.int nn), .val (.int mm), .val (.int f1), .val (.int f2), .val (.ref o), .val (.int (0 : Int32)), .val (.int v2), .val (.int (own_has fc2)), .unset, .unset] [])) _
        refine XS.iload X13.here hx rfl (hb hby at_146) rfl ?_
        show Steps p.tables e below (T13.setTop (mkF m 148 #[.val (.int p1), .val (.int p2), .val (.int p3), .val (.int p4), .val (.int nn), .val (.int mm), .val (.int f1), .val (.int f2), .val (.ref o), .val (.int (0 : Int32)), .val (.int v2), .val (.int (own_has fc2)), .unset, .unset] [(.int nn)])) _
        refine XS.ifNo X13.here hx rfl (hb hby at_148) rfl ((if0 _ _).trans (tlt hcs2).2.2.2) ?_
        show Steps p.tables e below (T13.setTop (mkF m 151 #[.val (.int p1), .val (.int p2), .val (.int p3), .val (.int p4), .val (.int nn), .val (.int mm), .val (.int f1), .val (.int f2), .val (.ref o), .val (.int (0 : Int32)), .val (.int v2), .val (.int (own_has fc2)), .unset, .unset] [])) _
        refine XS.iconst X13.here hx rfl (hb hby at_151) ?_
        show Steps p.tables e below (T13.setTop (mkF m 152 #[.val (.int p1), .val (.int p2), .val (.int p3), .val (.int p4), .val (.int nn), .val (.int mm), .val (.int f1), .val (.int f2), .val (.ref o), .val (.int (0 : Int32)), .val (.int v2), .val (.int (own_has fc2)), .unset, .unset] [(.int (1 : Int32))])) _
        refine XS.goto X13.here hx rfl (pc0 := 152) (pc' := 156) rfl (hb hby at_152) (by decide) (by decide) ?_
        show Steps p.tables e below (T13.setTop (mkF m 156 #[.val (.int p1), .val (.int p2), .val (.int p3), .val (.int p4), .val (.int nn), .val (.int mm), .val (.int f1), .val (.int f2), .val (.ref o), .val (.int (0 : Int32)), .val (.int v2), .val (.int (own_has fc2)), .unset, .unset] [(.int (1 : Int32))])) _
        refine XS.istore X13.here hx rfl (hb hby at_156) rfl (l' := #[.val (.int p1), .val (.int p2), .val (.int p3), .val (.int p4), .val (.int nn), .val (.int mm), .val (.int f1), .val (.int f2), .val (.ref o), .val (.int (0 : Int32)), .val (.int v2), .val (.int (own_has fc2)), .val (.int (1 : Int32)), .unset]) rfl ?_
        exact k
      · skip
        rw [if_neg hcs1, if_neg hcs2] at hev2
        rw [hev2] at k
        show Steps p.tables e below (T13.setTop (mkF m 141 #[.val (.int p1), .val (.int p2), .val (.int p3), .val (.int p4), .val (.int nn), .val (.int mm), .val (.int f1), .val (.int f2), .val (.ref o), .val (.int (0 : Int32)), .val (.int v2), .val (.int (own_has fc2)), .unset, .unset] [])) _
        refine XS.iload X13.here hx rfl (hb hby at_141) rfl ?_
        show Steps p.tables e below (T13.setTop (mkF m 143 #[.val (.int p1), .val (.int p2), .val (.int p3), .val (.int p4), .val (.int nn), .val (.int mm), .val (.int f1), .val (.int f2), .val (.ref o), .val (.int (0 : Int32)), .val (.int v2), .val (.int (own_has fc2)), .unset, .unset] [(.int f1)])) _
        refine XS.ifNo X13.here hx rfl (hb hby at_143) rfl ((if0 _ _).trans (feq hcs1).1) ?_
        show Steps p.tables e below (T13.setTop (mkF m 146 #[.val (.int p1), .val (.int p2), .val (.int p3), .val (.int p4), .val (.int nn), .val (.int mm), .val (.int f1), .val (.int f2), .val (.ref o), .val (.int (0 : Int32)), .val (.int v2), .val (.int (own_has fc2)), .unset, .unset] [])) _
        refine XS.iload X13.here hx rfl (hb hby at_146) rfl ?_
        show Steps p.tables e below (T13.setTop (mkF m 148 #[.val (.int p1), .val (.int p2), .val (.int p3), .val (.int p4), .val (.int nn), .val (.int mm), .val (.int f1), .val (.int f2), .val (.ref o), .val (.int (0 : Int32)), .val (.int v2), .val (.int (own_has fc2)), .unset, .unset] [(.int nn)])) _
        refine XS.ifYes X13.here hx rfl (pc0 := 148) (pc' := 155) rfl (hb hby at_148) rfl ((if0 _ _).trans (flt hcs2).2.2.2) (by decide) (by decide) ?_
        show Steps p.tables e below (T13.setTop (mkF m 155 #[.val (.int p1), .val (.int p2), .val (.int p3), .val (.int p4), .val (.int nn), .val (.int mm), .val (.int f1), .val (.int f2), .val (.ref o), .val (.int (0 : Int32)), .val (.int v2), .val (.int (own_has fc2)), .unset, .unset] [])) _
        refine XS.iconst X13.here hx rfl (hb hby at_155) ?_
        show Steps p.tables e below (T13.setTop (mkF m 156 #[.val (.int p1), .val (.int p2), .val (.int p3), .val (.int p4), .val (.int nn), .val (.int mm), .val (.int f1), .val (.int f2), .val (.ref o), .val (.int (0 : Int32)), .val (.int v2), .val (.int (own_has fc2)), .unset, .unset] [(.int (0 : Int32))])) _
        refine XS.istore X13.here hx rfl (hb hby at_156) rfl (l' := #[.val (.int p1), .val (.int p2), .val (.int p3), .val (.int p4), .val (.int nn), .val (.int mm), .val (.int f1), .val (.int f2), .val (.ref o), .val (.int (0 : Int32)), .val (.int v2), .val (.int (own_has fc2)), .val (.int (0 : Int32)), .unset]) rfl ?_
        exact k
  obtain ⟨ev3, hev3⟩ : ∃ z : Int32, z = (if f2 = (0 : Int32) then ev2 else (if (0 : Int32) < nn then (1 : Int32) else (if mm = (0 : Int32) then (0 : Int32) else (1 : Int32)))) := ⟨_, rfl⟩
  have st15 : ∀ t, Steps p.tables e below (T13.setTop (mkF m 187 #[.val (.int p1), .val (.int p2), .val (.int p3), .val (.int p4), .val (.int nn), .val (.int mm), .val (.int f1), .val (.int f2), .val (.ref o), .val (.int (0 : Int32)), .val (.int v2), .val (.int (own_has fc2)), .val (.int ev2), .val (.int ev3)] [])) t → Steps p.tables e below (T13.setTop (mkF m 158 #[.val (.int p1), .val (.int p2), .val (.int p3), .val (.int p4), .val (.int nn), .val (.int mm), .val (.int f1), .val (.int f2), .val (.ref o), .val (.int (0 : Int32)), .val (.int v2), .val (.int (own_has fc2)), .val (.int ev2), .unset] [])) t := by
    intro t k
    by_cases hcs1 : f2 = (0 : Int32)
    · skip
      rw [if_pos hcs1] at hev3
      rw [hev3] at k
      show Steps p.tables e below (T13.setTop (mkF m 158 #[.val (.int p1), .val (.int p2), .val (.int p3), .val (.int p4), .val (.int nn), .val (.int mm), .val (.int f1), .val (.int f2), .val (.ref o), .val (.int (0 : Int32)), .val (.int v2), .val (.int (own_has fc2)), .val (.int ev2), .unset] [])) _
      refine XS.iload X13.here hx rfl (hb hby at_158) rfl ?_
      show Steps p.tables e below (T13.setTop (mkF m 160 #[.val (.int p1), .val (.int p2), .val (.int p3), .val (.int p4), .val (.int nn), .val (.int mm), .val (.int f1), .val (.int f2), .val (.ref o), .val (.int (0 : Int32)), .val (.int v2), .val (.int (own_has fc2)), .val (.int ev2), .unset] [(.int f2)])) _
      refine XS.ifYes X13.here hx rfl (pc0 := 160) (pc' := 183) rfl (hb hby at_160) rfl ((if0 _ _).trans (teq hcs1).1) (by decide) (by decide) ?_
      show Steps p.tables e below (T13.setTop (mkF m 183 #[.val (.int p1), .val (.int p2), .val (.int p3), .val (.int p4), .val (.int nn), .val (.int mm), .val (.int f1), .val (.int f2), .val (.ref o), .val (.int (0 : Int32)), .val (.int v2), .val (.int (own_has fc2)), .val (.int ev2), .unset] [])) _
      refine XS.iload X13.here hx rfl (hb hby at_183) rfl ?_
      show Steps p.tables e below (T13.setTop (mkF m 185 #[.val (.int p1), .val (.int p2), .val (.int p3), .val (.int p4), .val (.int nn), .val (.int mm), .val (.int f1), .val (.int f2), .val (.ref o), .val (.int (0 : Int32)), .val (.int v2), .val (.int (own_has fc2)), .val (.int ev2), .unset] [(.int ev2)])) _
      refine XS.istore X13.here hx rfl (hb hby at_185) rfl (l' := #[.val (.int p1), .val (.int p2), .val (.int p3), .val (.int p4), .val (.int nn), .val (.int mm), .val (.int f1), .val (.int f2), .val (.ref o), .val (.int (0 : Int32)), .val (.int v2), .val (.int (own_has fc2)), .val (.int ev2), .val (.int ev2)]) rfl ?_
      exact k
    · skip
      by_cases hcs2 : (0 : Int32) < nn
      · skip
        rw [if_neg hcs1, if_pos hcs2] at hev3
        rw [hev3] at k
        show Steps p.tables e below (T13.setTop (mkF m 158 #[.val (.int p1), .val (.int p2), .val (.int p3), .val (.int p4), .val (.int nn), .val (.int mm), .val (.int f1), .val (.int f2), .val (.ref o), .val (.int (0 : Int32)), .val (.int v2), .val (.int (own_has fc2)), .val (.int ev2), .unset] [])) _
        refine XS.iload X13.here hx rfl (hb hby at_158) rfl ?_
        show Steps p.tables e below (T13.setTop (mkF m 160 #[.val (.int p1), .val (.int p2), .val (.int p3), .val (.int p4), .val (.int nn), .val (.int mm), .val (.int f1), .val (.int f2), .val (.ref o), .val (.int (0 : Int32)), .val (.int v2), .val (.int (own_has fc2)), .val (.int ev2), .unset] [(.int f2)])) _
        refine XS.ifNo X13.here hx rfl (hb hby at_160) rfl ((if0 _ _).trans (feq hcs1).1) ?_
        show Steps p.tables e below (T13.setTop (mkF m 163 #[.val (.int p1), .val (.int p2), .val (.int p3), .val (.int p4), .val (.int nn), .val (.int mm), .val (.int f1), .val (.int f2), .val (.ref o), .val (.int (0 : Int32)), .val (.int v2), .val (.int (own_has fc2)), .val (.int ev2), .unset] [])) _
        refine XS.iload X13.here hx rfl (hb hby at_163) rfl ?_
        show Steps p.tables e below (T13.setTop (mkF m 165 #[.val (.int p1), .val (.int p2), .val (.int p3), .val (.int p4), .val (.int nn), .val (.int mm), .val (.int f1), .val (.int f2), .val (.ref o), .val (.int (0 : Int32)), .val (.int v2), .val (.int (own_has fc2)), .val (.int ev2), .unset] [(.int nn)])) _
        refine XS.ifYes X13.here hx rfl (pc0 := 165) (pc' := 173) rfl (hb hby at_165) rfl ((if0 _ _).trans (tlt hcs2).2.2.1) (by decide) (by decide) ?_
        show Steps p.tables e below (T13.setTop (mkF m 173 #[.val (.int p1), .val (.int p2), .val (.int p3), .val (.int p4), .val (.int nn), .val (.int mm), .val (.int f1), .val (.int f2), .val (.ref o), .val (.int (0 : Int32)), .val (.int v2), .val (.int (own_has fc2)), .val (.int ev2), .unset] [])) _
        refine XS.iconst X13.here hx rfl (hb hby at_173) ?_
        show Steps p.tables e below (T13.setTop (mkF m 174 #[.val (.int p1), .val (.int p2), .val (.int p3), .val (.int p4), .val (.int nn), .val (.int mm), .val (.int f1), .val (.int f2), .val (.ref o), .val (.int (0 : Int32)), .val (.int v2), .val (.int (own_has fc2)), .val (.int ev2), .unset] [(.int (1 : Int32))])) _
        refine XS.goto X13.here hx rfl (pc0 := 174) (pc' := 178) rfl (hb hby at_174) (by decide) (by decide) ?_
        show Steps p.tables e below (T13.setTop (mkF m 178 #[.val (.int p1), .val (.int p2), .val (.int p3), .val (.int p4), .val (.int nn), .val (.int mm), .val (.int f1), .val (.int f2), .val (.ref o), .val (.int (0 : Int32)), .val (.int v2), .val (.int (own_has fc2)), .val (.int ev2), .unset] [(.int (1 : Int32))])) _
        refine XS.istore X13.here hx rfl (hb hby at_178) rfl (l' := #[.val (.int p1), .val (.int p2), .val (.int p3), .val (.int p4), .val (.int nn), .val (.int mm), .val (.int f1), .val (.int f2), .val (.ref o), .val (.int (0 : Int32)), .val (.int v2), .val (.int (own_has fc2)), .val (.int ev2), .val (.int (1 : Int32))]) rfl ?_
        show Steps p.tables e below (T13.setTop (mkF m 180 #[.val (.int p1), .val (.int p2), .val (.int p3), .val (.int p4), .val (.int nn), .val (.int mm), .val (.int f1), .val (.int f2), .val (.ref o), .val (.int (0 : Int32)), .val (.int v2), .val (.int (own_has fc2)), .val (.int ev2), .val (.int (1 : Int32))] [])) _
        refine XS.goto X13.here hx rfl (pc0 := 180) (pc' := 187) rfl (hb hby at_180) (by decide) (by decide) ?_
        exact k
      · skip
        by_cases hcs3 : mm = (0 : Int32)
        · skip
          rw [if_neg hcs1, if_neg hcs2, if_pos hcs3] at hev3
          rw [hev3] at k
          show Steps p.tables e below (T13.setTop (mkF m 158 #[.val (.int p1), .val (.int p2), .val (.int p3), .val (.int p4), .val (.int nn), .val (.int mm), .val (.int f1), .val (.int f2), .val (.ref o), .val (.int (0 : Int32)), .val (.int v2), .val (.int (own_has fc2)), .val (.int ev2), .unset] [])) _
          refine XS.iload X13.here hx rfl (hb hby at_158) rfl ?_
          show Steps p.tables e below (T13.setTop (mkF m 160 #[.val (.int p1), .val (.int p2), .val (.int p3), .val (.int p4), .val (.int nn), .val (.int mm), .val (.int f1), .val (.int f2), .val (.ref o), .val (.int (0 : Int32)), .val (.int v2), .val (.int (own_has fc2)), .val (.int ev2), .unset] [(.int f2)])) _
          refine XS.ifNo X13.here hx rfl (hb hby at_160) rfl ((if0 _ _).trans (feq hcs1).1) ?_
          show Steps p.tables e below (T13.setTop (mkF m 163 #[.val (.int p1), .val (.int p2), .val (.int p3), .val (.int p4), .val (.int nn), .val (.int mm), .val (.int f1), .val (.int f2), .val (.ref o), .val (.int (0 : Int32)), .val (.int v2), .val (.int (own_has fc2)), .val (.int ev2), .unset] [])) _
          refine XS.iload X13.here hx rfl (hb hby at_163) rfl ?_
          show Steps p.tables e below (T13.setTop (mkF m 165 #[.val (.int p1), .val (.int p2), .val (.int p3), .val (.int p4), .val (.int nn), .val (.int mm), .val (.int f1), .val (.int f2), .val (.ref o), .val (.int (0 : Int32)), .val (.int v2), .val (.int (own_has fc2)), .val (.int ev2), .unset] [(.int nn)])) _
          refine XS.ifNo X13.here hx rfl (hb hby at_165) rfl ((if0 _ _).trans (flt hcs2).2.2.1) ?_
          show Steps p.tables e below (T13.setTop (mkF m 168 #[.val (.int p1), .val (.int p2), .val (.int p3), .val (.int p4), .val (.int nn), .val (.int mm), .val (.int f1), .val (.int f2), .val (.ref o), .val (.int (0 : Int32)), .val (.int v2), .val (.int (own_has fc2)), .val (.int ev2), .unset] [])) _
          refine XS.iload X13.here hx rfl (hb hby at_168) rfl ?_
          show Steps p.tables e below (T13.setTop (mkF m 170 #[.val (.int p1), .val (.int p2), .val (.int p3), .val (.int p4), .val (.int nn), .val (.int mm), .val (.int f1), .val (.int f2), .val (.ref o), .val (.int (0 : Int32)), .val (.int v2), .val (.int (own_has fc2)), .val (.int ev2), .unset] [(.int mm)])) _
          refine XS.ifYes X13.here hx rfl (pc0 := 170) (pc' := 177) rfl (hb hby at_170) rfl ((if0 _ _).trans (teq hcs3).1) (by decide) (by decide) ?_
          show Steps p.tables e below (T13.setTop (mkF m 177 #[.val (.int p1), .val (.int p2), .val (.int p3), .val (.int p4), .val (.int nn), .val (.int mm), .val (.int f1), .val (.int f2), .val (.ref o), .val (.int (0 : Int32)), .val (.int v2), .val (.int (own_has fc2)), .val (.int ev2), .unset] [])) _
          refine XS.iconst X13.here hx rfl (hb hby at_177) ?_
          show Steps p.tables e below (T13.setTop (mkF m 178 #[.val (.int p1), .val (.int p2), .val (.int p3), .val (.int p4), .val (.int nn), .val (.int mm), .val (.int f1), .val (.int f2), .val (.ref o), .val (.int (0 : Int32)), .val (.int v2), .val (.int (own_has fc2)), .val (.int ev2), .unset] [(.int (0 : Int32))])) _
          refine XS.istore X13.here hx rfl (hb hby at_178) rfl (l' := #[.val (.int p1), .val (.int p2), .val (.int p3), .val (.int p4), .val (.int nn), .val (.int mm), .val (.int f1), .val (.int f2), .val (.ref o), .val (.int (0 : Int32)), .val (.int v2), .val (.int (own_has fc2)), .val (.int ev2), .val (.int (0 : Int32))]) rfl ?_
          show Steps p.tables e below (T13.setTop (mkF m 180 #[.val (.int p1), .val (.int p2), .val (.int p3), .val (.int p4), .val (.int nn), .val (.int mm), .val (.int f1), .val (.int f2), .val (.ref o), .val (.int (0 : Int32)), .val (.int v2), .val (.int (own_has fc2)), .val (.int ev2), .val (.int (0 : Int32))] [])) _
          refine XS.goto X13.here hx rfl (pc0 := 180) (pc' := 187) rfl (hb hby at_180) (by decide) (by decide) ?_
          exact k
        · skip
          rw [if_neg hcs1, if_neg hcs2, if_neg hcs3] at hev3
          rw [hev3] at k
          show Steps p.tables e below (T13.setTop (mkF m 158 #[.val (.int p1), .val (.int p2), .val (.int p3), .val (.int p4), .val (.int nn), .val (.int mm), .val (.int f1), .val (.int f2), .val (.ref o), .val (.int (0 : Int32)), .val (.int v2), .val (.int (own_has fc2)), .val (.int ev2), .unset] [])) _
          refine XS.iload X13.here hx rfl (hb hby at_158) rfl ?_
          show Steps p.tables e below (T13.setTop (mkF m 160 #[.val (.int p1), .val (.int p2), .val (.int p3), .val (.int p4), .val (.int nn), .val (.int mm), .val (.int f1), .val (.int f2), .val (.ref o), .val (.int (0 : Int32)), .val (.int v2), .val (.int (own_has fc2)), .val (.int ev2), .unset] [(.int f2)])) _
          refine XS.ifNo X13.here hx rfl (hb hby at_160) rfl ((if0 _ _).trans (feq hcs1).1) ?_
          show Steps p.tables e below (T13.setTop (mkF m 163 #[.val (.int p1), .val (.int p2), .val (.int p3), .val (.int p4), .val (.int nn), .val (.int mm), .val (.int f1), .val (.int f2), .val (.ref o), .val (.int (0 : Int32)), .val (.int v2), .val (.int (own_has fc2)), .val (.int ev2), .unset] [])) _
          refine XS.iload X13.here hx rfl (hb hby at_163) rfl ?_
          show Steps p.tables e below (T13.setTop (mkF m 165 #[.val (.int p1), .val (.int p2), .val (.int p3), .val (.int p4), .val (.int nn), .val (.int mm), .val (.int f1), .val (.int f2), .val (.ref o), .val (.int (0 : Int32)), .val (.int v2), .val (.int (own_has fc2)), .val (.int ev2), .unset] [(.int nn)])) _
          refine XS.ifNo X13.here hx rfl (hb hby at_165) rfl ((if0 _ _).trans (flt hcs2).2.2.1) ?_
          show Steps p.tables e below (T13.setTop (mkF m 168 #[.val (.int p1), .val (.int p2), .val (.int p3), .val (.int p4), .val (.int nn), .val (.int mm), .val (.int f1), .val (.int f2), .val (.ref o), .val (.int (0 : Int32)), .val (.int v2), .val (.int (own_has fc2)), .val (.int ev2), .unset] [])) _
          refine XS.iload X13.here hx rfl (hb hby at_168) rfl ?_
          show Steps p.tables e below (T13.setTop (mkF m 170 #[.val (.int p1), .val (.int p2), .val (.int p3), .val (.int p4), .val (.int nn), .val (.int mm), .val (.int f1), .val (.int f2), .val (.ref o), .val (.int (0 : Int32)), .val (.int v2), .val (.int (own_has fc2)), .val (.int ev2), .unset] [(.int mm)])) _
          refine XS.ifNo X13.here hx rfl (hb hby at_170) rfl ((if0 _ _).trans (feq hcs3).1) ?_
          show Steps p.tables e below (T13.setTop (mkF m 173 #[.val (.int p1), .val (.int p2), .val (.int p3), .val (.int p4), .val (.int nn), .val (.int mm), .val (.int f1), .val (.int f2), .val (.ref o), .val (.int (0 : Int32)), .val (.int v2), .val (.int (own_has fc2)), .val (.int ev2), .unset] [])) _
          refine XS.iconst X13.here hx rfl (hb hby at_173) ?_
          show Steps p.tables e below (T13.setTop (mkF m 174 #[.val (.int p1), .val (.int p2), .val (.int p3), .val (.int p4), .val (.int nn), .val (.int mm), .val (.int f1), .val (.int f2), .val (.ref o), .val (.int (0 : Int32)), .val (.int v2), .val (.int (own_has fc2)), .val (.int ev2), .unset] [(.int (1 : Int32))])) _
          refine XS.goto X13.here hx rfl (pc0 := 174) (pc' := 178) rfl (hb hby at_174) (by decide) (by decide) ?_
          show Steps p.tables e below (T13.setTop (mkF m 178 #[.val (.int p1), .val (.int p2), .val (.int p3), .val (.int p4), .val (.int nn), .val (.int mm), .val (.int f1), .val (.int f2), .val (.ref o), .val (.int (0 : Int32)), .val (.int v2), .val (.int (own_has fc2)), .val (.int ev2), .unset] [(.int (1 : Int32))])) _
          refine XS.istore X13.here hx rfl (hb hby at_178) rfl (l' := #[.val (.int p1), .val (.int p2), .val (.int p3), .val (.int p4), .val (.int nn), .val (.int mm), .val (.int f1), .val (.int f2), .val (.ref o), .val (.int (0 : Int32)), .val (.int v2), .val (.int (own_has fc2)), .val (.int ev2), .val (.int (1 : Int32))]) rfl ?_
          show Steps p.tables e below (T13.setTop (mkF m 180 #[.val (.int p1), .val (.int p2), .val (.int p3), .val (.int p4), .val (.int nn), .val (.int mm), .val (.int f1), .val (.int f2), .val (.ref o), .val (.int (0 : Int32)), .val (.int v2), .val (.int (own_has fc2)), .val (.int ev2), .val (.int (1 : Int32))] [])) _
          refine XS.goto X13.here hx rfl (pc0 := 180) (pc' := 187) rfl (hb hby at_180) (by decide) (by decide) ?_
          exact k
  obtain ⟨y1, y2⟩ := c3 ev2 ev3 hev2 hev3
  obtain ⟨fs, hr, hrun, hended, hW, hsame⟩ := X13.leave (v := some (.int (1 : Int32))) (fun h => by rw [Bd.returns] at h; cases h)
  refine ⟨_, _, pre0 _ ?_, hrun, hended, _, _, rfl, ?_, ⟨_, rfl⟩, hW, hsame.mono (by decide) (by decide)⟩
  · show Steps p.tables e below (s₁.setTop (mkF m 0 #[.val (.int p1), .val (.int p2), .val (.int p3), .val (.int p4), .unset, .unset, .unset, .unset, .unset, .unset, .unset, .unset, .unset, .unset] [])) _
    refine XS.iloadN X0.here hx rfl (hb hby at_0) rfl ?_
    show Steps p.tables e below (s₁.setTop (mkF m 1 #[.val (.int p1), .val (.int p2), .val (.int p3), .val (.int p4), .unset, .unset, .unset, .unset, .unset, .unset, .unset, .unset, .unset, .unset] [(.int p1)])) _
    refine X0.ldcInt hx hown (mvT hZ (hw _ (List.mem_of_getElem? (i := 0) rfl))) (g := (mkF m 1 #[.val (.int p1), .val (.int p2), .val (.int p3), .val (.int p4), .unset, .unset, .unset, .unset, .unset, .unset, .unset, .unset, .unset, .unset] [(.int p1)])) rfl (hb hby at_1) _ ?_
    show Steps p.tables e below (s₁.setTop (mkF m 3 #[.val (.int p1), .val (.int p2), .val (.int p3), .val (.int p4), .unset, .unset, .unset, .unset, .unset, .unset, .unset, .unset, .unset, .unset] [(.int (2147483647 : Int32)), (.int p1)])) _
    refine XS.iand X0.here hx rfl (hb hby at_3) rfl ?_
    show Steps p.tables e below (s₁.setTop (mkF m 4 #[.val (.int p1), .val (.int p2), .val (.int p3), .val (.int p4), .unset, .unset, .unset, .unset, .unset, .unset, .unset, .unset, .unset, .unset] [(.int (p1 &&& (2147483647 : Int32)))])) _
    refine XS.iconst X0.here hx rfl (hb hby at_4) ?_
    show Steps p.tables e below (s₁.setTop (mkF m 5 #[.val (.int p1), .val (.int p2), .val (.int p3), .val (.int p4), .unset, .unset, .unset, .unset, .unset, .unset, .unset, .unset, .unset, .unset] [(.int (3 : Int32)), (.int (p1 &&& (2147483647 : Int32)))])) _
    refine iremM X0 hx rfl (hb hby at_5) rfl (by decide) ?_
    show Steps p.tables e below (s₁.setTop (mkF m 6 #[.val (.int p1), .val (.int p2), .val (.int p3), .val (.int p4), .unset, .unset, .unset, .unset, .unset, .unset, .unset, .unset, .unset, .unset] [(.int ((p1 &&& (2147483647 : Int32)) % (3 : Int32)))])) _
    refine XS.istore X0.here hx rfl (hb hby at_6) rfl (l' := #[.val (.int p1), .val (.int p2), .val (.int p3), .val (.int p4), .val (.int ((p1 &&& (2147483647 : Int32)) % (3 : Int32))), .unset, .unset, .unset, .unset, .unset, .unset, .unset, .unset, .unset]) rfl ?_
    show Steps p.tables e below (s₁.setTop (mkF m 8 #[.val (.int p1), .val (.int p2), .val (.int p3), .val (.int p4), .val (.int ((p1 &&& (2147483647 : Int32)) % (3 : Int32))), .unset, .unset, .unset, .unset, .unset, .unset, .unset, .unset, .unset] [])) _
    refine stg_nn _ ?_
    show Steps p.tables e below (s₁.setTop (mkF m 8 #[.val (.int p1), .val (.int p2), .val (.int p3), .val (.int p4), .val (.int nn), .unset, .unset, .unset, .unset, .unset, .unset, .unset, .unset, .unset] [])) _
    refine st1 _ ?_
    show Steps p.tables e below (s₁.setTop (mkF m 21 #[.val (.int p1), .val (.int p2), .val (.int p3), .val (.int p4), .val (.int nn), .val (.int mm), .unset, .unset, .unset, .unset, .unset, .unset, .unset, .unset] [])) _
    refine st2 _ ?_
    show Steps p.tables e below (s₁.setTop (mkF m 34 #[.val (.int p1), .val (.int p2), .val (.int p3), .val (.int p4), .val (.int nn), .val (.int mm), .val (.int f1), .unset, .unset, .unset, .unset, .unset, .unset, .unset] [])) _
    refine st3 _ ?_
    show Steps p.tables e below (s₁.setTop (mkF m 47 #[.val (.int p1), .val (.int p2), .val (.int p3), .val (.int p4), .val (.int nn), .val (.int mm), .val (.int f1), .val (.int f2), .unset, .unset, .unset, .unset, .unset, .unset] [])) _
    refine st4 _ ?_
    show Steps p.tables e below (T4.setTop (mkF m 50 #[.val (.int p1), .val (.int p2), .val (.int p3), .val (.int p4), .val (.int nn), .val (.int mm), .val (.int f1), .val (.int f2), .unset, .unset, .unset, .unset, .unset, .unset] [(.ref o)])) _
    refine XS.dup X4.here hx rfl (hb hby at_50) rfl rfl ?_
    show Steps p.tables e below (T4.setTop (mkF m 51 #[.val (.int p1), .val (.int p2), .val (.int p3), .val (.int p4), .val (.int nn), .val (.int mm), .val (.int f1), .val (.int f2), .unset, .unset, .unset, .unset, .unset, .unset] [(.ref o), (.ref o)])) _
    refine st5.trans ?_
    show Steps p.tables e below (T5.setTop (mkF m 54 #[.val (.int p1), .val (.int p2), .val (.int p3), .val (.int p4), .val (.int nn), .val (.int mm), .val (.int f1), .val (.int f2), .unset, .unset, .unset, .unset, .unset, .unset] [(.ref o)])) _
    refine XS.astore X5.here hx rfl (hb hby at_54) rfl rfl (l' := #[.val (.int p1), .val (.int p2), .val (.int p3), .val (.int p4), .val (.int nn), .val (.int mm), .val (.int f1), .val (.int f2), .val (.ref o), .unset, .unset, .unset, .unset, .unset]) rfl ?_
    show Steps p.tables e below (T5.setTop (mkF m 56 #[.val (.int p1), .val (.int p2), .val (.int p3), .val (.int p4), .val (.int nn), .val (.int mm), .val (.int f1), .val (.int f2), .val (.ref o), .unset, .unset, .unset, .unset, .unset] [])) _
    refine st6 _ ?_
    show Steps p.tables e below (T6.setTop (mkF m 71 #[.val (.int p1), .val (.int p2), .val (.int p3), .val (.int p4), .val (.int nn), .val (.int mm), .val (.int f1), .val (.int f2), .val (.ref o), .unset, .unset, .unset, .unset, .unset] [])) _
    refine st7 _ ?_
    show Steps p.tables e below (T7.setTop (mkF m 86 #[.val (.int p1), .val (.int p2), .val (.int p3), .val (.int p4), .val (.int nn), .val (.int mm), .val (.int f1), .val (.int f2), .val (.ref o), .unset, .unset, .unset, .unset, .unset] [])) _
    refine XS.aload X7.here hx rfl (hb hby at_86) rfl rfl ?_
    show Steps p.tables e below (T7.setTop (mkF m 88 #[.val (.int p1), .val (.int p2), .val (.int p3), .val (.int p4), .val (.int nn), .val (.int mm), .val (.int f1), .val (.int f2), .val (.ref o), .unset, .unset, .unset, .unset, .unset] [(.ref o)])) _
    refine st8.trans ?_
    show Steps p.tables e below (T8.setTop (mkF m 91 #[.val (.int p1), .val (.int p2), .val (.int p3), .val (.int p4), .val (.int nn), .val (.int mm), .val (.int f1), .val (.int f2), .val (.ref o), .unset, .unset, .unset, .unset, .unset] [(.int (own_has (0 : Int32)))])) _
    refine XS.istore X8.here hx rfl (hb hby at_91) rfl (l' := #[.val (.int p1), .val (.int p2), .val (.int p3), .val (.int p4), .val (.int nn), .val (.int mm), .val (.int f1), .val (.int f2), .val (.ref o), .val (.int (own_has (0 : Int32))), .unset, .unset, .unset, .unset]) rfl ?_
    show Steps p.tables e below (T8.setTop (mkF m 93 #[.val (.int p1), .val (.int p2), .val (.int p3), .val (.int p4), .val (.int nn), .val (.int mm), .val (.int f1), .val (.int f2), .val (.ref o), .val (.int (own_has (0 : Int32))), .unset, .unset, .unset, .unset] [])) _
    refine stz _ ?_
    show Steps p.tables e below (T8.setTop (mkF m 93 #[.val (.int p1), .val (.int p2), .val (.int p3), .val (.int p4), .val (.int nn), .val (.int mm), .val (.int f1), .val (.int f2), .val (.ref o), .val (.int (0 : Int32)), .unset, .unset, .unset, .unset] [])) _
    refine st9 _ ?_
    show Steps p.tables e below (T9.setTop (mkF m 103 #[.val (.int p1), .val (.int p2), .val (.int p3), .val (.int p4), .val (.int nn), .val (.int mm), .val (.int f1), .val (.int f2), .val (.ref o), .val (.int (0 : Int32)), .unset, .unset, .unset, .unset] [])) _
    refine XS.aload X9.here hx rfl (hb hby at_103) rfl rfl ?_
    show Steps p.tables e below (T9.setTop (mkF m 105 #[.val (.int p1), .val (.int p2), .val (.int p3), .val (.int p4), .val (.int nn), .val (.int mm), .val (.int f1), .val (.int f2), .val (.ref o), .val (.int (0 : Int32)), .unset, .unset, .unset, .unset] [(.ref o)])) _
    refine st10.trans ?_
    show Steps p.tables e below (T10.setTop (mkF m 108 #[.val (.int p1), .val (.int p2), .val (.int p3), .val (.int p4), .val (.int nn), .val (.int mm), .val (.int f1), .val (.int f2), .val (.ref o), .val (.int (0 : Int32)), .unset, .unset, .unset, .unset] [(.int (own_has fc1))])) _
    refine XS.istore X10.here hx rfl (hb hby at_108) rfl (l' := #[.val (.int p1), .val (.int p2), .val (.int p3), .val (.int p4), .val (.int nn), .val (.int mm), .val (.int f1), .val (.int f2), .val (.ref o), .val (.int (0 : Int32)), .val (.int (own_has fc1)), .unset, .unset, .unset]) rfl ?_
    show Steps p.tables e below (T10.setTop (mkF m 110 #[.val (.int p1), .val (.int p2), .val (.int p3), .val (.int p4), .val (.int nn), .val (.int mm), .val (.int f1), .val (.int f2), .val (.ref o), .val (.int (0 : Int32)), .val (.int (own_has fc1)), .unset, .unset, .unset] [])) _
    refine stg_v2 _ ?_
    show Steps p.tables e below (T10.setTop (mkF m 110 #[.val (.int p1), .val (.int p2), .val (.int p3), .val (.int p4), .val (.int nn), .val (.int mm), .val (.int f1), .val (.int f2), .val (.ref o), .val (.int (0 : Int32)), .val (.int v2), .unset, .unset, .unset] [])) _
    refine st11 _ ?_
    show Steps p.tables e below (T11.setTop (mkF m 124 #[.val (.int p1), .val (.int p2), .val (.int p3), .val (.int p4), .val (.int nn), .val (.int mm), .val (.int f1), .val (.int f2), .val (.ref o), .val (.int (0 : Int32)), .val (.int v2), .unset, .unset, .unset] [])) _
    refine st12 _ ?_
    show Steps p.tables e below (T12.setTop (mkF m 134 #[.val (.int p1), .val (.int p2), .val (.int p3), .val (.int p4), .val (.int nn), .val (.int mm), .val (.int f1), .val (.int f2), .val (.ref o), .val (.int (0 : Int32)), .val (.int v2), .unset, .unset, .unset] [])) _
    refine XS.aload X12.here hx rfl (hb hby at_134) rfl rfl ?_
    show Steps p.tables e below (T12.setTop (mkF m 136 #[.val (.int p1), .val (.int p2), .val (.int p3), .val (.int p4), .val (.int nn), .val (.int mm), .val (.int f1), .val (.int f2), .val (.ref o), .val (.int (0 : Int32)), .val (.int v2), .unset, .unset, .unset] [(.ref o)])) _
    refine st13.trans ?_
    show Steps p.tables e below (T13.setTop (mkF m 139 #[.val (.int p1), .val (.int p2), .val (.int p3), .val (.int p4), .val (.int nn), .val (.int mm), .val (.int f1), .val (.int f2), .val (.ref o), .val (.int (0 : Int32)), .val (.int v2), .unset, .unset, .unset] [(.int (own_has fc2))])) _
    refine XS.istore X13.here hx rfl (hb hby at_139) rfl (l' := #[.val (.int p1), .val (.int p2), .val (.int p3), .val (.int p4), .val (.int nn), .val (.int mm), .val (.int f1), .val (.int f2), .val (.ref o), .val (.int (0 : Int32)), .val (.int v2), .val (.int (own_has fc2)), .unset, .unset]) rfl ?_
    show Steps p.tables e below (T13.setTop (mkF m 141 #[.val (.int p1), .val (.int p2), .val (.int p3), .val (.int p4), .val (.int nn), .val (.int mm), .val (.int f1), .val (.int f2), .val (.ref o), .val (.int (0 : Int32)), .val (.int v2), .val (.int (own_has fc2)), .unset, .unset] [])) _
    refine st14 _ ?_
    show Steps p.tables e below (T13.setTop (mkF m 158 #[.val (.int p1), .val (.int p2), .val (.int p3), .val (.int p4), .val (.int nn), .val (.int mm), .val (.int f1), .val (.int f2), .val (.ref o), .val (.int (0 : Int32)), .val (.int v2), .val (.int (own_has fc2)), .val (.int ev2), .unset] [])) _
    refine st15 _ ?_
    show Steps p.tables e below (T13.setTop (mkF m 187 #[.val (.int p1), .val (.int p2), .val (.int p3), .val (.int p4), .val (.int nn), .val (.int mm), .val (.int f1), .val (.int f2), .val (.ref o), .val (.int (0 : Int32)), .val (.int v2), .val (.int (own_has fc2)), .val (.int ev2), .val (.int ev3)] [])) _
    refine XS.iload X13.here hx rfl (hb hby at_187) rfl ?_
    show Steps p.tables e below (T13.setTop (mkF m 189 #[.val (.int p1), .val (.int p2), .val (.int p3), .val (.int p4), .val (.int nn), .val (.int mm), .val (.int f1), .val (.int f2), .val (.ref o), .val (.int (0 : Int32)), .val (.int v2), .val (.int (own_has fc2)), .val (.int ev2), .val (.int ev3)] [(.int (0 : Int32))])) _
    refine XS.ifNo X13.here hx rfl (hb hby at_189) rfl ((if0 _ _).trans (teq (rfl : (0 : Int32) = (0 : Int32))).2) ?_
    show Steps p.tables e below (T13.setTop (mkF m 192 #[.val (.int p1), .val (.int p2), .val (.int p3), .val (.int p4), .val (.int nn), .val (.int mm), .val (.int f1), .val (.int f2), .val (.ref o), .val (.int (0 : Int32)), .val (.int v2), .val (.int (own_has fc2)), .val (.int ev2), .val (.int ev3)] [])) _
    refine XS.iload X13.here hx rfl (hb hby at_192) rfl ?_
    show Steps p.tables e below (T13.setTop (mkF m 194 #[.val (.int p1), .val (.int p2), .val (.int p3), .val (.int p4), .val (.int nn), .val (.int mm), .val (.int f1), .val (.int f2), .val (.ref o), .val (.int (0 : Int32)), .val (.int v2), .val (.int (own_has fc2)), .val (.int ev2), .val (.int ev3)] [(.int v2)])) _
    refine XS.iload X13.here hx rfl (hb hby at_194) rfl ?_
    show Steps p.tables e below (T13.setTop (mkF m 196 #[.val (.int p1), .val (.int p2), .val (.int p3), .val (.int p4), .val (.int nn), .val (.int mm), .val (.int f1), .val (.int f2), .val (.ref o), .val (.int (0 : Int32)), .val (.int v2), .val (.int (own_has fc2)), .val (.int ev2), .val (.int ev3)] [(.int ev2), (.int v2)])) _
    refine XS.icmpNo X13.here hx rfl (hb hby at_196) rfl (teq (hv2.trans y1 : v2 = ev2)).2 ?_
    show Steps p.tables e below (T13.setTop (mkF m 199 #[.val (.int p1), .val (.int p2), .val (.int p3), .val (.int p4), .val (.int nn), .val (.int mm), .val (.int f1), .val (.int f2), .val (.ref o), .val (.int (0 : Int32)), .val (.int v2), .val (.int (own_has fc2)), .val (.int ev2), .val (.int ev3)] [])) _
    refine XS.iload X13.here hx rfl (hb hby at_199) rfl ?_
    show Steps p.tables e below (T13.setTop (mkF m 201 #[.val (.int p1), .val (.int p2), .val (.int p3), .val (.int p4), .val (.int nn), .val (.int mm), .val (.int f1), .val (.int f2), .val (.ref o), .val (.int (0 : Int32)), .val (.int v2), .val (.int (own_has fc2)), .val (.int ev2), .val (.int ev3)] [(.int (own_has fc2))])) _
    refine XS.iload X13.here hx rfl (hb hby at_201) rfl ?_
    show Steps p.tables e below (T13.setTop (mkF m 203 #[.val (.int p1), .val (.int p2), .val (.int p3), .val (.int p4), .val (.int nn), .val (.int mm), .val (.int f1), .val (.int f2), .val (.ref o), .val (.int (0 : Int32)), .val (.int v2), .val (.int (own_has fc2)), .val (.int ev2), .val (.int ev3)] [(.int ev3), (.int (own_has fc2))])) _
    refine XS.icmpNo X13.here hx rfl (hb hby at_203) rfl (teq (y2 : (own_has fc2) = ev3)).2 ?_
    show Steps p.tables e below (T13.setTop (mkF m 206 #[.val (.int p1), .val (.int p2), .val (.int p3), .val (.int p4), .val (.int nn), .val (.int mm), .val (.int f1), .val (.int f2), .val (.ref o), .val (.int (0 : Int32)), .val (.int v2), .val (.int (own_has fc2)), .val (.int ev2), .val (.int ev3)] [])) _
    refine XS.iconst X13.here hx rfl (hb hby at_206) ?_
    show Steps p.tables e below (T13.setTop (mkF m 207 #[.val (.int p1), .val (.int p2), .val (.int p3), .val (.int p4), .val (.int nn), .val (.int mm), .val (.int f1), .val (.int f2), .val (.ref o), .val (.int (0 : Int32)), .val (.int v2), .val (.int (own_has fc2)), .val (.int ev2), .val (.int ev3)] [(.int (1 : Int32))])) _
    refine XS.goto X13.here hx rfl (pc0 := 207) (pc' := 211) rfl (hb hby at_207) (by decide) (by decide) ?_
    show Steps p.tables e below (T13.setTop (mkF m 211 #[.val (.int p1), .val (.int p2), .val (.int p3), .val (.int p4), .val (.int nn), .val (.int mm), .val (.int f1), .val (.int f2), .val (.ref o), .val (.int (0 : Int32)), .val (.int v2), .val (.int (own_has fc2)), .val (.int ev2), .val (.int ev3)] [(.int (1 : Int32))])) _
    exact retN X13 hx (t := .boolean) Bd.returns (by simp) (hb hby at_211) hr
  · show Q0 Z p1 p2 p3 p4  h0 n0 _ T13.heap _
    rw [e13]
    exact ⟨rfl, N13⟩

set_option maxRecDepth 65536 in
set_option maxHeartbeats 40000000 in
theorem comes_1 {Post : Tables → Env → Array Value → State → Outcome → State → Prop} (hpost : ∀ tb e args s v u, (limb_1_1.after args s (.returned v) u = true ∧ limb_1_2.after args s (.returned v) u = true ∧ True) → FrameEnd s (.returned v) u (Jvm.fieldLocs frame_1_writes args s ++ Jvm.arrayLocs frame_1_arrays args s ++ Jvm.staticLocs frame_1_statics s) 24 192 → Post tb e args s (.returned v) u) :
    ArmFor flags0 classFile x code maxLocals ret World_1 tables_1 room_1 Calls_1 rest_1 Pre_1 Post := by
  intro l hfl _ _ p e ha hc hk s m args below hf hA hF happ hP
  obtain ⟨hcalls, hrest, hpre⟩ := hP
  obtain ⟨-, -, -, hnamed, -, -, -, hat⟩ := (Spec.applies_iff hf).mp happ
  obtain ⟨hg, hn⟩ := and_e (Cond.before_iff.mp (show (Jvm.Cond.and given_1 narrow_1).before args s = true from hpre))
  obtain ⟨g0, k0⟩ := and_e hg
  obtain ⟨g1, k1⟩ := and_e k0
  obtain ⟨g2, k2⟩ := and_e k1
  obtain ⟨g3, k3⟩ := and_e k2
  obtain ⟨w0, w1, w2, w3, rfl⟩ : ∃ w0 w1 w2 w3 : Value, args = #[w0, w1, w2, w3] := by
    have hs : args.size = 4 := by simpa [Cond.value, given_1] using g0
    obtain ⟨L⟩ := args
    match L, hs with
    | [w0, w1, w2, w3], _ => exact ⟨w0, w1, w2, w3, rfl⟩
  have hw := fun d (hd : d ∈ tables_1) => atoms_spec (ws := Jvm.Cond.code x code maxLocals ret :: tables_1) hat d (List.mem_cons_of_mem _ hd)
  obtain ⟨i0, ei0⟩ := is_v g1
  obtain rfl : w0 = (.int i0) := Option.some.inj ei0
  obtain ⟨i1, ei1⟩ := is_v g2
  obtain rfl : w1 = (.int i1) := Option.some.inj ei1
  obtain ⟨i2, ei2⟩ := is_v g3
  obtain rfl : w2 = (.int i2) := Option.some.inj ei2
  obtain ⟨i3, ei3⟩ := is_v k3
  obtain rfl : w3 = (.int i3) := Option.some.inj ei3
  obtain ⟨n, o, h1, h2, h3, _, L, rfl, ⟨rfl, N⟩, hq⟩ := rm0 l s _ hw tables_1 i0 i1 i2 i3 s.heap s.heap.size (Nat.le_refl _) p e ha hc hk s m _ below hf ((Spec.applies_iff_loose hf).mp happ).1 ⟨rfl, State.Warmed39.refl s, rfl⟩ trivial
  refine ⟨n, _, h1, h2, h3, hpost _ _ _ _ _ _ ⟨Cond.after_iff.mpr rfl, Cond.after_iff.mpr (eq_i res_at (Term.int_eval (1)) rfl), trivial⟩ ⟨hq.1, hq.2.1, (hq.2.2.sift fun y hy => Or.inr (N y hy)).mono (by decide) (by decide)⟩⟩
theorem main_1_1 : Claimed_1_1 := comes_1 fun _ _ _ _ _ _ h hF => ⟨h.1, hF⟩
theorem main_1_2 : Claimed_1_2 := comes_1 fun _ _ _ _ _ _ h hF => ⟨h.2.1, hF⟩

end Jvm.Pilot.@@N@@
namespace Jvm.Pilot.@@N@@
open Jvm Jvm.ClassFile Sem Op Lib Jvm.Free Jvm.Stand Jvm.Pilot.@@N@@.Jvm.D
/-! MADE BY PROGRAM (witnessworld.py) out of the Statement's table words and the real class files: 18 classes; the members and pool entries that the words name. The judged class is class 1, her method 1. -/
namespace start1
open Jvm.ClassFile
def u (s : String) : CpInfo := .utf8 (stringToUtf16 s)
/-- a pool by its gaps: so many unusable entries, then the entry; so many at the end -/
def gap : Nat → List CpInfo → List CpInfo
  | 0, r => r
  | n + 1, r => .unusable :: gap n r
def poolList (es : List (Nat × CpInfo)) (last : Nat) : List CpInfo := es.foldr (fun e r => gap e.1 (e.2 :: r)) (gap last [])
def pool (es : List (Nat × CpInfo)) (last : Nat) : Array CpInfo := ⟨poolList es last⟩
def fileOf (pool : Array CpInfo) (this : Nat) (attrs : Array Attribute := #[]) (ms : Array MethodInfo := #[]) (fl : Nat := 33) (sup : Nat := 0) (ifs : Array Nat := #[]) (fds : Array FieldInfo := #[]) : ClassFile where
  minorVersion := 0
  majorVersion := 65
  constantPool := pool
  accessFlags := fl
  thisClass := this
  superClass := sup
  interfaces := ifs
  fields := fds
  methods := ms
  attributes := attrs
def plain (name : String) (sup : Option ClassId) : Class where
  name := name
  kind := .ordinary
  loader := none
  accessFlags := 33
  super := sup
  interfaces := #[]
  cf := none
  fields := #[]
  methods := #[]
  instanceTypes := #[]
  staticTypes := #[]
  resolved := #[]
  callSites := []
  init := .initialized
  statics := none
  mirror := none

def pool0 : Array CpInfo := pool [(5, u "<init>"), (0, u "()V"), (1, .class_ 10), (1, u "java/lang/Object")] 113

def k0c0 : Code := { maxStack := 0, maxLocals := 1, code := object_method_1_code, exceptionTable := #[], attributes := #[] }
def k0m0 : Method := { name := "<init>", desc := "()V", sig := { parameters := [], returnType := none }, accessFlags := 1, code := some k0c0 }
/-- java/lang/Object -/
def k0 : Class := { plain "java/lang/Object" none with
  accessFlags := 33
  interfaces := #[]
  cf := some (fileOf pool0 8 #[] #[{ accessFlags := 1, nameIndex := 5, descriptorIndex := 6, attributes := #[] }] 33 0 #[] #[])
  fields := #[]
  methods := #[k0m0]
  instanceTypes := #[]
  staticTypes := #[]
  resolved := Array.replicate 124 none
  statics := none }

def pool1 : Array CpInfo := pool [(2, .class_ 4), (0, .nameAndType 5 6), (0, u "java/lang/Object"), (0, u "<init>"), (0, u "()V"), (0, .integer 2147483647), (0, .class_ 9), (0, u "com/example/grelo/grelo/WriteQueue"), (0, .methodref 8 3), (0, .methodref 8 12), (0, .nameAndType 13 14), (0, u "add"), (0, u "(Ljava/nio/ByteBuffer;IILjava/util/concurrent/CompletableFuture;)V"), (0, .methodref 8 16), (0, .nameAndType 17 18), (0, u "hasFlushed"), (0, u "()Z"), (0, .methodref 8 20), (0, .nameAndType 21 6), (0, u "flush"), (0, .class_ 23), (0, u "com/example/grelo/grelo/WriteQueueFlushPinLaw"), (2, u "law"), (0, u "(IIII)Z")] 3

def k1m0 : Method := { name := "<init>", desc := "()V", sig := { parameters := [], returnType := none }, accessFlags := 1, code := none }
def k1c1 : Code := { maxStack := 5, maxLocals := 14, code := code, exceptionTable := #[], attributes := #[] }
def k1m1 : Method := { name := "law", desc := "(IIII)Z", sig := { parameters := [.int, .int, .int, .int], returnType := some .boolean }, accessFlags := 9, code := some k1c1 }
/-- com/example/grelo/grelo/WriteQueueFlushPinLaw -/
def k1 : Class := { plain "com/example/grelo/grelo/WriteQueueFlushPinLaw" (some 0) with
  accessFlags := 49
  interfaces := #[]
  cf := some (fileOf pool1 22 #[] #[{ accessFlags := 1, nameIndex := 5, descriptorIndex := 6, attributes := #[] }, { accessFlags := 9, nameIndex := 26, descriptorIndex := 27, attributes := #[] }] 49 2 #[] #[])
  fields := #[]
  methods := #[k1m0, k1m1]
  instanceTypes := #[]
  staticTypes := #[]
  resolved := Array.replicate 31 none
  statics := none }

def pool2 : Array CpInfo := pool [(1, .methodref 2 3), (0, .class_ 4), (0, .nameAndType 5 6), (0, u "java/lang/Object"), (0, u "<init>"), (0, u "()V"), (0, .class_ 8), (0, u "java/util/ArrayDeque"), (0, .methodref 7 3), (0, .fieldref 11 12), (0, .class_ 13), (0, .nameAndType 14 15), (0, u "com/example/grelo/grelo/WriteQueue"), (0, u "writes"), (0, u "Ljava/util/ArrayDeque;"), (0, .fieldref 11 17), (0, .nameAndType 18 15), (0, u "sent"), (0, .class_ 20), (0, u "com/example/grelo/grelo/WriteQueue$Write"), (0, .methodref 19 22), (0, .nameAndType 5 23), (0, u "(Ljava/nio/ByteBuffer;IILjava/util/concurrent/CompletableFuture;)V"), (0, .methodref 7 25), (0, .nameAndType 26 27), (0, u "addLast"), (0, u "(Ljava/lang/Object;)V"), (0, .methodref 7 29), (0, .nameAndType 30 31), (0, u "size"), (0, u "()I"), (0, .fieldref 11 33), (0, .nameAndType 34 35), (0, u "flushedCount"), (0, u "I"), (13, u "()Z"), (63, u "add"), (18, u "flush"), (0, u "hasFlushed")] 33

def k2c0 : Code := { maxStack := 3, maxLocals := 1, code := prog_27_method_1_code, exceptionTable := #[], attributes := #[] }
def k2m0 : Method := { name := "<init>", desc := "()V", sig := { parameters := [], returnType := none }, accessFlags := 0, code := some k2c0 }
def k2c1 : Code := { maxStack := 7, maxLocals := 5, code := prog_27_method_2_code, exceptionTable := #[], attributes := #[] }
def k2m1 : Method := { name := "add", desc := "(Ljava/nio/ByteBuffer;IILjava/util/concurrent/CompletableFuture;)V", sig := { parameters := [(.object "java/nio/ByteBuffer"), .int, .int, (.object "java/util/concurrent/CompletableFuture")], returnType := none }, accessFlags := 0, code := some k2c1 }
def k2c2 : Code := { maxStack := 2, maxLocals := 1, code := prog_27_method_3_code, exceptionTable := #[], attributes := #[] }
def k2m2 : Method := { name := "flush", desc := "()V", sig := { parameters := [], returnType := none }, accessFlags := 0, code := some k2c2 }
def k2c3 : Code := { maxStack := 1, maxLocals := 1, code := prog_27_method_4_code, exceptionTable := #[], attributes := #[] }
def k2m3 : Method := { name := "hasFlushed", desc := "()Z", sig := { parameters := [], returnType := some .boolean }, accessFlags := 0, code := some k2c3 }
/-- com/example/grelo/grelo/WriteQueue -/
def k2 : Class := { plain "com/example/grelo/grelo/WriteQueue" (some 0) with
  accessFlags := 48
  interfaces := #[]
  cf := some (fileOf pool2 11 #[.nestMembers #[19]] #[{ accessFlags := 0, nameIndex := 5, descriptorIndex := 6, attributes := #[] }, { accessFlags := 0, nameIndex := 113, descriptorIndex := 23, attributes := #[] }, { accessFlags := 0, nameIndex := 132, descriptorIndex := 6, attributes := #[] }, { accessFlags := 0, nameIndex := 133, descriptorIndex := 49, attributes := #[] }] 48 2 #[] #[{ accessFlags := 18, nameIndex := 14, descriptorIndex := 15, attributes := #[] }, { accessFlags := 2, nameIndex := 34, descriptorIndex := 35, attributes := #[] }, { accessFlags := 18, nameIndex := 18, descriptorIndex := 15, attributes := #[] }])
  fields := #[{ name := "writes", type := (.object "java/util/ArrayDeque"), accessFlags := 18, slot := 0, constantValue := 0 }, { name := "flushedCount", type := .int, accessFlags := 2, slot := 1, constantValue := 0 }, { name := "sent", type := (.object "java/util/ArrayDeque"), accessFlags := 18, slot := 2, constantValue := 0 }]
  methods := #[k2m0, k2m1, k2m2, k2m3]
  instanceTypes := #[(.object "java/util/ArrayDeque"), .int, (.object "java/util/ArrayDeque")]
  staticTypes := #[]
  resolved := Array.replicate 167 none
  statics := none }

def pool3 : Array CpInfo := pool [(8, .class_ 10), (1, u "java/lang/Iterable"), (24, .class_ 36), (0, u "java/lang/Object")] 25

/-- java/lang/Iterable -/
def k3 : Class := { plain "java/lang/Iterable" (some 0) with
  accessFlags := 1537
  interfaces := #[]
  cf := some (fileOf pool3 8 #[] #[] 1537 35 #[] #[])
  fields := #[]
  methods := #[]
  instanceTypes := #[]
  staticTypes := #[]
  resolved := Array.replicate 62 none
  statics := none }

def pool4 : Array CpInfo := pool [(10, .class_ 12), (1, u "java/util/Collection"), (47, .class_ 61), (0, u "java/lang/Object"), (0, .class_ 63), (0, u "java/lang/Iterable")] 51

/-- java/util/Collection -/
def k4 : Class := { plain "java/util/Collection" (some 0) with
  accessFlags := 1537
  interfaces := #[3]
  cf := some (fileOf pool4 10 #[] #[] 1537 60 #[62] #[])
  fields := #[]
  methods := #[]
  instanceTypes := #[]
  staticTypes := #[]
  resolved := Array.replicate 115 none
  statics := none }

def pool5 : Array CpInfo := pool [(1, .methodref 2 3), (0, .class_ 4), (0, .nameAndType 5 6), (0, u "java/lang/Object"), (0, u "<init>"), (0, u "()V"), (1, .class_ 10), (1, u "java/util/AbstractCollection"), (66, .class_ 78), (0, u "java/util/Collection")] 81

def k5c0 : Code := { maxStack := 1, maxLocals := 1, code := jdk_22_method_1_code, exceptionTable := #[], attributes := #[] }
def k5m0 : Method := { name := "<init>", desc := "()V", sig := { parameters := [], returnType := none }, accessFlags := 4, code := some k5c0 }
/-- java/util/AbstractCollection -/
def k5 : Class := { plain "java/util/AbstractCollection" (some 0) with
  accessFlags := 1057
  interfaces := #[4]
  cf := some (fileOf pool5 8 #[] #[{ accessFlags := 4, nameIndex := 5, descriptorIndex := 6, attributes := #[] }] 1057 2 #[77] #[])
  fields := #[]
  methods := #[k5m0]
  instanceTypes := #[]
  staticTypes := #[]
  resolved := Array.replicate 160 none
  statics := none }

def pool6 : Array CpInfo := pool [(1, .class_ 2), (0, u "java/util/Queue"), (0, .class_ 4), (0, u "java/lang/Object"), (0, .class_ 6), (0, u "java/util/Collection")] 14

/-- java/util/Queue -/
def k6 : Class := { plain "java/util/Queue" (some 0) with
  accessFlags := 1537
  interfaces := #[4]
  cf := some (fileOf pool6 1 #[] #[] 1537 3 #[5] #[])
  fields := #[]
  methods := #[]
  instanceTypes := #[]
  staticTypes := #[]
  resolved := Array.replicate 21 none
  statics := none }

def pool7 : Array CpInfo := pool [(8, .class_ 10), (1, u "java/util/SequencedCollection"), (15, .class_ 27), (0, u "java/lang/Object"), (0, .class_ 29), (0, u "java/util/Collection")] 27

/-- java/util/SequencedCollection -/
def k7 : Class := { plain "java/util/SequencedCollection" (some 0) with
  accessFlags := 1537
  interfaces := #[4]
  cf := some (fileOf pool7 8 #[] #[] 1537 26 #[28] #[])
  fields := #[]
  methods := #[]
  instanceTypes := #[]
  staticTypes := #[]
  resolved := Array.replicate 57 none
  statics := none }

def pool8 : Array CpInfo := pool [(8, .class_ 10), (1, u "java/util/Deque"), (2, .class_ 14), (0, u "java/lang/Object"), (0, .class_ 16), (0, u "java/util/Queue"), (0, .class_ 18), (0, u "java/util/SequencedCollection")] 51

/-- java/util/Deque -/
def k8 : Class := { plain "java/util/Deque" (some 0) with
  accessFlags := 1537
  interfaces := #[6, 7]
  cf := some (fileOf pool8 8 #[] #[] 1537 13 #[15, 17] #[])
  fields := #[]
  methods := #[]
  instanceTypes := #[]
  staticTypes := #[]
  resolved := Array.replicate 70 none
  statics := none }

def pool9 : Array CpInfo := pool [(1, .class_ 2), (0, u "java/lang/Cloneable"), (0, .class_ 4), (0, u "java/lang/Object")] 2

/-- java/lang/Cloneable -/
def k9 : Class := { plain "java/lang/Cloneable" (some 0) with
  accessFlags := 1537
  interfaces := #[]
  cf := some (fileOf pool9 1 #[] #[] 1537 3 #[] #[])
  fields := #[]
  methods := #[]
  instanceTypes := #[]
  staticTypes := #[]
  resolved := Array.replicate 7 none
  statics := none }

def pool10 : Array CpInfo := pool [(1, .class_ 2), (0, u "java/io/Serializable"), (0, .class_ 4), (0, u "java/lang/Object")] 2

/-- java/io/Serializable -/
def k10 : Class := { plain "java/io/Serializable" (some 0) with
  accessFlags := 1537
  interfaces := #[]
  cf := some (fileOf pool10 1 #[] #[] 1537 3 #[] #[])
  fields := #[]
  methods := #[]
  instanceTypes := #[]
  staticTypes := #[]
  resolved := Array.replicate 7 none
  statics := none }

def pool11 : Array CpInfo := pool [(3, .fieldref 4 5), (0, .class_ 6), (0, .nameAndType 7 8), (0, u "java/util/ArrayDeque"), (0, u "elements"), (0, u "[Ljava/lang/Object;"), (4, u "(II)I"), (6, .fieldref 4 21), (0, .nameAndType 22 23), (0, u "tail"), (0, u "I"), (0, .fieldref 4 25), (0, .nameAndType 26 23), (0, u "head"), (12, u "<init>"), (2, .methodref 43 44), (0, .class_ 45), (0, .nameAndType 39 46), (0, u "java/util/AbstractCollection"), (0, u "()V"), (0, .class_ 48), (0, u "java/lang/Object"), (4, u "size"), (0, u "()I"), (19, .methodref 4 75), (0, .nameAndType 76 13), (0, u "inc"), (12, u "(Ljava/lang/Object;)V"), (2, u "addLast"), (34, .methodref 4 128), (0, .nameAndType 129 130), (0, u "sub"), (0, u "(III)I"), (0, .class_ 132), (0, u "java/util/ArrayDeque$DeqIterator"), (3, .class_ 137), (0, u "java/util/ArrayDeque$DescendingIterator"), (1, .class_ 140), (0, u "java/util/ArrayDeque$DeqSpliterator"), (137, .class_ 279), (0, u "java/util/Deque"), (0, .class_ 281), (0, u "java/lang/Cloneable"), (0, .class_ 283), (0, u "java/io/Serializable"), (0, u "MAX_ARRAY_SIZE"), (1, u "serialVersionUID"), (0, u "J")] 150

def k11c0 : Code := { maxStack := 2, maxLocals := 1, code := jdk_21_method_3_code, exceptionTable := #[], attributes := #[] }
def k11m0 : Method := { name := "<init>", desc := "()V", sig := { parameters := [], returnType := none }, accessFlags := 1, code := some k11c0 }
def k11c1 : Code := { maxStack := 2, maxLocals := 2, code := jdk_21_method_6_code, exceptionTable := #[], attributes := #[] }
def k11m1 : Method := { name := "inc", desc := "(II)I", sig := { parameters := [.int, .int], returnType := some .int }, accessFlags := 24, code := some k11c1 }
def k11c2 : Code := { maxStack := 2, maxLocals := 3, code := jdk_21_method_9_code, exceptionTable := #[], attributes := #[] }
def k11m2 : Method := { name := "sub", desc := "(III)I", sig := { parameters := [.int, .int, .int], returnType := some .int }, accessFlags := 24, code := some k11c2 }
def k11c3 : Code := { maxStack := 4, maxLocals := 3, code := jdk_21_method_13_code, exceptionTable := #[], attributes := #[] }
def k11m3 : Method := { name := "addLast", desc := "(Ljava/lang/Object;)V", sig := { parameters := [(.object "java/lang/Object")], returnType := none }, accessFlags := 1, code := some k11c3 }
def k11c4 : Code := { maxStack := 3, maxLocals := 1, code := jdk_21_method_37_code, exceptionTable := #[], attributes := #[] }
def k11m4 : Method := { name := "size", desc := "()I", sig := { parameters := [], returnType := some .int }, accessFlags := 1, code := some k11c4 }
/-- java/util/ArrayDeque -/
def k11 : Class := { plain "java/util/ArrayDeque" (some 5) with
  accessFlags := 33
  interfaces := #[8, 9, 10]
  cf := some (fileOf pool11 4 #[.nestMembers #[139, 136, 131]] #[{ accessFlags := 1, nameIndex := 39, descriptorIndex := 46, attributes := #[] }, { accessFlags := 24, nameIndex := 76, descriptorIndex := 13, attributes := #[] }, { accessFlags := 24, nameIndex := 129, descriptorIndex := 130, attributes := #[] }, { accessFlags := 1, nameIndex := 92, descriptorIndex := 89, attributes := #[] }, { accessFlags := 1, nameIndex := 53, descriptorIndex := 54, attributes := #[] }] 33 43 #[278, 280, 282] #[{ accessFlags := 128, nameIndex := 7, descriptorIndex := 8, attributes := #[] }, { accessFlags := 128, nameIndex := 26, descriptorIndex := 23, attributes := #[] }, { accessFlags := 128, nameIndex := 22, descriptorIndex := 23, attributes := #[] }, { accessFlags := 26, nameIndex := 284, descriptorIndex := 23, attributes := #[] }, { accessFlags := 26, nameIndex := 286, descriptorIndex := 287, attributes := #[] }])
  fields := #[{ name := "elements", type := (.array (.object "java/lang/Object")), accessFlags := 128, slot := 0, constantValue := 0 }, { name := "head", type := .int, accessFlags := 128, slot := 1, constantValue := 0 }, { name := "tail", type := .int, accessFlags := 128, slot := 2, constantValue := 0 }, { name := "MAX_ARRAY_SIZE", type := .int, accessFlags := 26, slot := 0, constantValue := 0 }, { name := "serialVersionUID", type := .long, accessFlags := 26, slot := 1, constantValue := 0 }]
  methods := #[k11m0, k11m1, k11m2, k11m3, k11m4]
  instanceTypes := #[(.array (.object "java/lang/Object")), .int, .int]
  staticTypes := #[.int, .long]
  resolved := Array.replicate 438 none
  statics := none }

def pool12 : Array CpInfo := pool [(1, .methodref 2 3), (0, .class_ 4), (0, .nameAndType 5 6), (0, u "java/lang/Object"), (0, u "<init>"), (0, u "()V"), (0, .fieldref 8 9), (0, .class_ 10), (0, .nameAndType 11 12), (0, u "com/example/grelo/grelo/WriteQueue$Write"), (0, u "data"), (0, u "Ljava/nio/ByteBuffer;"), (0, .fieldref 8 14), (0, .nameAndType 15 16), (0, u "next"), (0, u "I"), (0, .fieldref 8 18), (0, .nameAndType 19 16), (0, u "end"), (0, .fieldref 8 21), (0, .nameAndType 22 23), (0, u "written"), (0, u "Ljava/util/concurrent/CompletableFuture;"), (2, u "(Ljava/nio/ByteBuffer;IILjava/util/concurrent/CompletableFuture;)V"), (8, .class_ 36), (0, u "com/example/grelo/grelo/WriteQueue")] 2

def k12c0 : Code := { maxStack := 2, maxLocals := 5, code := prog_28_method_1_code, exceptionTable := #[], attributes := #[] }
def k12m0 : Method := { name := "<init>", desc := "(Ljava/nio/ByteBuffer;IILjava/util/concurrent/CompletableFuture;)V", sig := { parameters := [(.object "java/nio/ByteBuffer"), .int, .int, (.object "java/util/concurrent/CompletableFuture")], returnType := none }, accessFlags := 0, code := some k12c0 }
/-- com/example/grelo/grelo/WriteQueue$Write -/
def k12 : Class := { plain "com/example/grelo/grelo/WriteQueue$Write" (some 0) with
  accessFlags := 48
  interfaces := #[]
  cf := some (fileOf pool12 8 #[.nestHost 35] #[{ accessFlags := 0, nameIndex := 5, descriptorIndex := 26, attributes := #[] }] 48 2 #[] #[{ accessFlags := 16, nameIndex := 11, descriptorIndex := 12, attributes := #[] }, { accessFlags := 0, nameIndex := 15, descriptorIndex := 16, attributes := #[] }, { accessFlags := 16, nameIndex := 19, descriptorIndex := 16, attributes := #[] }, { accessFlags := 16, nameIndex := 22, descriptorIndex := 23, attributes := #[] }])
  fields := #[{ name := "data", type := (.object "java/nio/ByteBuffer"), accessFlags := 16, slot := 0, constantValue := 0 }, { name := "next", type := .int, accessFlags := 0, slot := 1, constantValue := 0 }, { name := "end", type := .int, accessFlags := 16, slot := 2, constantValue := 0 }, { name := "written", type := (.object "java/util/concurrent/CompletableFuture"), accessFlags := 16, slot := 3, constantValue := 0 }]
  methods := #[k12m0]
  instanceTypes := #[(.object "java/nio/ByteBuffer"), .int, .int, (.object "java/util/concurrent/CompletableFuture")]
  staticTypes := #[]
  resolved := Array.replicate 39 none
  statics := none }

/-- the primitive byte -/
def k13 : Class := { plain "byte" none with kind := .primitive 'B', accessFlags := 0x411 }
/-- [B -/
def k14 : Class := { plain "[B" (some 0) with kind := .array 13 .byte, interfaces := #[9, 10], accessFlags := 1041 }

/-- the primitive int -/
def k15 : Class := { plain "int" none with kind := .primitive 'I', accessFlags := 0x411 }
/-- [I -/
def k16 : Class := { plain "[I" (some 0) with kind := .array 15 .int, interfaces := #[9, 10], accessFlags := 1041 }

/-- [Ljava/lang/Object; -/
def k17 : Class := { plain "[Ljava/lang/Object;" (some 0) with kind := .array 0 (.object "java/lang/Object"), interfaces := #[9, 10], accessFlags := 1041 }

def heap : Heap := #[]
def classes : Array Class := #[k0, k1, k2, k3, k4, k5, k6, k7, k8, k9, k10, k11, k12, k13, k14, k15, k16, k17]
def interned : List (Array UInt16 × Addr) := []
def slotsUsed : Nat := 0
def theMethod : MethodId := ⟨1, 1⟩
def args0 : Array Value := #[.int 5, .int 3, .int 9, .int 1]
def aboutOver (below : List Frame) : State where
  vm := { classes := classes, interned := interned.toArray }
  heap := heap
  slotsUsed := slotsUsed
  threads := #[{ frames := .invoking theMethod args0 :: below }]
def below0 : List Frame := [.native { method := ⟨0, 0⟩, args := #[] }]
def about1 : State := aboutOver below0
def p0 : Program := .bare "" "" ""
def e0 : Env := launch0.env 0 0 0
theorem w_frames : about1.frames = Frame.invoking theMethod args0 :: below0 := rfl
set_option maxRecDepth 65536 in
theorem w_args : argsFit about1.vm theMethod args0 = true := by decide +kernel
set_option maxRecDepth 65536 in
theorem w_heap : heapFits about1 = true := by decide +kernel
set_option maxRecDepth 65536 in
theorem w_runnable : about1.curStatus? = some .runnable := by decide +kernel
set_option maxRecDepth 65536 in
theorem w_alone : about1.alone = true := by decide +kernel
set_option maxRecDepth 65536 in
theorem w_named : about1.methodNamed? x = some theMethod := by decide +kernel
set_option maxRecDepth 65536 in
theorem w_hears : about1.hears theMethod below0 = true := by decide +kernel
set_option maxRecDepth 65536 in
theorem w_ripe : about1.ripe theMethod args0 below0 = true := by decide +kernel
theorem w_running : about1.status = .running := rfl
set_option maxRecDepth 65536 in
theorem w_room : about1.hasRoom e0.platform room_1 = true :=
  launch0.hasRoom_least _ room_1 (by decide +kernel) (by decide +kernel) (by decide +kernel) (by decide +kernel) (by decide +kernel) (by decide +kernel)
theorem allAtoms_all (ts : List Jvm.Cond) (a : Array Jvm.Value) (st : Jvm.State) : (allAtoms ts).before a st = ts.all (fun c => c.before a st) := by
  induction ts with
  | nil => rfl
  | cons c t ih =>
    show (Jvm.Cond.and c (allAtoms t)).before a st = _
    rw [Jvm.Cond.before_and, ih, List.all_cons]
def words1 : List Jvm.Cond := Jvm.Cond.code x code maxLocals ret :: tables_1
/-- a 'code' word, met by the world's own term for the bytes: nothing is compared byte by byte -/
theorem code_word {y : MethodName} {bytes : ByteArray} {mx : Nat} {rt : Option FieldType} {a : Array Value} {s : State} {m : MethodId} {meth : Method} {c : Code} (h1 : s.methodNamed? y = some m) (h2 : s.vm.method? m = some meth) (h3 : meth.code = some c) (h4 : c.code = bytes)
    (h5 : (c.maxLocals == mx && c.exceptionTable.isEmpty && decide (c.maxStack ≤ mostOperands) && decide (meth.sig.returnType = rt) && !meth.locks && decide (parseMethodDescriptor y.desc = some meth.sig)) = true) : (Jvm.Cond.code y bytes mx rt).before a s = true := by
  simp only [Bool.and_eq_true, beq_iff_eq, Bool.not_eq_true', decide_eq_true_eq] at h5
  obtain ⟨⟨⟨⟨⟨g1, g2⟩, g3⟩, g4⟩, g5⟩, g6⟩ := h5
  simp [Cond.before, Cond.holds, Cond.value, h1, h2, h3, h4, g1, g2, g3, g4, g5, g6]
def isCode : Jvm.Cond → Bool
  | .code _ _ _ _ => true
  | _ => false
theorem all_split {L : List Jvm.Cond} {P : Jvm.Cond → Bool} (h1 : L.all (fun c => isCode c || P c) = true) (h2 : ∀ c ∈ L.filter isCode, P c = true) : L.all P = true := by
  refine List.all_eq_true.mpr fun c hc => ?_
  have h := List.all_eq_true.mp h1 c hc
  rcases Bool.eq_false_or_eq_true (isCode c) with hi | hi
  · exact h2 c (List.mem_filter.mpr ⟨hc, hi⟩)
  · simpa [hi] using h
set_option maxRecDepth 65536 in
theorem w_c0 : (Jvm.Cond.code x code maxLocals ret).before args0 about1 = true := code_word (m := ⟨1, 1⟩) (meth := k1m1) (c := k1c1) (by decide +kernel) rfl rfl rfl (by decide +kernel)
set_option maxRecDepth 65536 in
theorem w_c1 : (Jvm.Cond.code ({ cls := "com/example/grelo/grelo/WriteQueue", name := "<init>", desc := "()V" } : Jvm.MethodName) prog_27_method_1_code (1 : Nat) (Option.none : Option Jvm.ClassFile.FieldType)).before args0 about1 = true := code_word (m := ⟨2, 0⟩) (meth := k2m0) (c := k2c0) (by decide +kernel) rfl rfl rfl (by decide +kernel)
set_option maxRecDepth 65536 in
theorem w_c2 : (Jvm.Cond.code ({ cls := "java/lang/Object", name := "<init>", desc := "()V" } : Jvm.MethodName) object_method_1_code (1 : Nat) (Option.none : Option Jvm.ClassFile.FieldType)).before args0 about1 = true := code_word (m := ⟨0, 0⟩) (meth := k0m0) (c := k0c0) (by decide +kernel) rfl rfl rfl (by decide +kernel)
set_option maxRecDepth 65536 in
theorem w_c3 : (Jvm.Cond.code ({ cls := "java/util/ArrayDeque", name := "<init>", desc := "()V" } : Jvm.MethodName) jdk_21_method_3_code (1 : Nat) (Option.none : Option Jvm.ClassFile.FieldType)).before args0 about1 = true := code_word (m := ⟨11, 0⟩) (meth := k11m0) (c := k11c0) (by decide +kernel) rfl rfl rfl (by decide +kernel)
set_option maxRecDepth 65536 in
theorem w_c4 : (Jvm.Cond.code ({ cls := "java/util/AbstractCollection", name := "<init>", desc := "()V" } : Jvm.MethodName) jdk_22_method_1_code (1 : Nat) (Option.none : Option Jvm.ClassFile.FieldType)).before args0 about1 = true := code_word (m := ⟨5, 0⟩) (meth := k5m0) (c := k5c0) (by decide +kernel) rfl rfl rfl (by decide +kernel)
set_option maxRecDepth 65536 in
theorem w_c5 : (Jvm.Cond.code ({ cls := "com/example/grelo/grelo/WriteQueue", name := "hasFlushed", desc := "()Z" } : Jvm.MethodName) prog_27_method_4_code (1 : Nat) (Option.some Jvm.ClassFile.FieldType.boolean)).before args0 about1 = true := code_word (m := ⟨2, 3⟩) (meth := k2m3) (c := k2c3) (by decide +kernel) rfl rfl rfl (by decide +kernel)
set_option maxRecDepth 65536 in
theorem w_c6 : (Jvm.Cond.code ({ cls := "com/example/grelo/grelo/WriteQueue", name := "flush", desc := "()V" } : Jvm.MethodName) prog_27_method_3_code (1 : Nat) (Option.none : Option Jvm.ClassFile.FieldType)).before args0 about1 = true := code_word (m := ⟨2, 2⟩) (meth := k2m2) (c := k2c2) (by decide +kernel) rfl rfl rfl (by decide +kernel)
set_option maxRecDepth 65536 in
theorem w_c7 : (Jvm.Cond.code ({ cls := "java/util/ArrayDeque", name := "size", desc := "()I" } : Jvm.MethodName) jdk_21_method_37_code (1 : Nat) (Option.some Jvm.ClassFile.FieldType.int)).before args0 about1 = true := code_word (m := ⟨11, 4⟩) (meth := k11m4) (c := k11c4) (by decide +kernel) rfl rfl rfl (by decide +kernel)
set_option maxRecDepth 65536 in
theorem w_c8 : (Jvm.Cond.code ({ cls := "java/util/ArrayDeque", name := "sub", desc := "(III)I" } : Jvm.MethodName) jdk_21_method_9_code (3 : Nat) (Option.some Jvm.ClassFile.FieldType.int)).before args0 about1 = true := code_word (m := ⟨11, 2⟩) (meth := k11m2) (c := k11c2) (by decide +kernel) rfl rfl rfl (by decide +kernel)
set_option maxRecDepth 65536 in
theorem w_c9 : (Jvm.Cond.code ({ cls := "com/example/grelo/grelo/WriteQueue", name := "add", desc := "(Ljava/nio/ByteBuffer;IILjava/util/concurrent/CompletableFuture;)V" } : Jvm.MethodName) prog_27_method_2_code (5 : Nat) (Option.none : Option Jvm.ClassFile.FieldType)).before args0 about1 = true := code_word (m := ⟨2, 1⟩) (meth := k2m1) (c := k2c1) (by decide +kernel) rfl rfl rfl (by decide +kernel)
set_option maxRecDepth 65536 in
theorem w_c10 : (Jvm.Cond.code ({ cls := "com/example/grelo/grelo/WriteQueue$Write", name := "<init>", desc := "(Ljava/nio/ByteBuffer;IILjava/util/concurrent/CompletableFuture;)V" } : Jvm.MethodName) prog_28_method_1_code (5 : Nat) (Option.none : Option Jvm.ClassFile.FieldType)).before args0 about1 = true := code_word (m := ⟨12, 0⟩) (meth := k12m0) (c := k12c0) (by decide +kernel) rfl rfl rfl (by decide +kernel)
set_option maxRecDepth 65536 in
theorem w_c11 : (Jvm.Cond.code ({ cls := "java/util/ArrayDeque", name := "addLast", desc := "(Ljava/lang/Object;)V" } : Jvm.MethodName) jdk_21_method_13_code (3 : Nat) (Option.none : Option Jvm.ClassFile.FieldType)).before args0 about1 = true := code_word (m := ⟨11, 3⟩) (meth := k11m3) (c := k11c3) (by decide +kernel) rfl rfl rfl (by decide +kernel)
set_option maxRecDepth 65536 in
theorem w_c12 : (Jvm.Cond.code ({ cls := "java/util/ArrayDeque", name := "inc", desc := "(II)I" } : Jvm.MethodName) jdk_21_method_6_code (2 : Nat) (Option.some Jvm.ClassFile.FieldType.int)).before args0 about1 = true := code_word (m := ⟨11, 1⟩) (meth := k11m1) (c := k11c1) (by decide +kernel) rfl rfl rfl (by decide +kernel)
def codes1 : List Jvm.Cond := [Jvm.Cond.code x code maxLocals ret, Jvm.Cond.code ({ cls := "com/example/grelo/grelo/WriteQueue", name := "<init>", desc := "()V" } : Jvm.MethodName) prog_27_method_1_code (1 : Nat) (Option.none : Option Jvm.ClassFile.FieldType), Jvm.Cond.code ({ cls := "java/lang/Object", name := "<init>", desc := "()V" } : Jvm.MethodName) object_method_1_code (1 : Nat) (Option.none : Option Jvm.ClassFile.FieldType), Jvm.Cond.code ({ cls := "java/util/ArrayDeque", name := "<init>", desc := "()V" } : Jvm.MethodName) jdk_21_method_3_code (1 : Nat) (Option.none : Option Jvm.ClassFile.FieldType), Jvm.Cond.code ({ cls := "java/util/AbstractCollection", name := "<init>", desc := "()V" } : Jvm.MethodName) jdk_22_method_1_code (1 : Nat) (Option.none : Option Jvm.ClassFile.FieldType), Jvm.Cond.code ({ cls := "com/example/grelo/grelo/WriteQueue", name := "hasFlushed", desc := "()Z" } : Jvm.MethodName) prog_27_method_4_code (1 : Nat) (Option.some Jvm.ClassFile.FieldType.boolean), Jvm.Cond.code ({ cls := "com/example/grelo/grelo/WriteQueue", name := "flush", desc := "()V" } : Jvm.MethodName) prog_27_method_3_code (1 : Nat) (Option.none : Option Jvm.ClassFile.FieldType), Jvm.Cond.code ({ cls := "java/util/ArrayDeque", name := "size", desc := "()I" } : Jvm.MethodName) jdk_21_method_37_code (1 : Nat) (Option.some Jvm.ClassFile.FieldType.int), Jvm.Cond.code ({ cls := "java/util/ArrayDeque", name := "sub", desc := "(III)I" } : Jvm.MethodName) jdk_21_method_9_code (3 : Nat) (Option.some Jvm.ClassFile.FieldType.int), Jvm.Cond.code ({ cls := "com/example/grelo/grelo/WriteQueue", name := "add", desc := "(Ljava/nio/ByteBuffer;IILjava/util/concurrent/CompletableFuture;)V" } : Jvm.MethodName) prog_27_method_2_code (5 : Nat) (Option.none : Option Jvm.ClassFile.FieldType), Jvm.Cond.code ({ cls := "com/example/grelo/grelo/WriteQueue$Write", name := "<init>", desc := "(Ljava/nio/ByteBuffer;IILjava/util/concurrent/CompletableFuture;)V" } : Jvm.MethodName) prog_28_method_1_code (5 : Nat) (Option.none : Option Jvm.ClassFile.FieldType), Jvm.Cond.code ({ cls := "java/util/ArrayDeque", name := "addLast", desc := "(Ljava/lang/Object;)V" } : Jvm.MethodName) jdk_21_method_13_code (3 : Nat) (Option.none : Option Jvm.ClassFile.FieldType), Jvm.Cond.code ({ cls := "java/util/ArrayDeque", name := "inc", desc := "(II)I" } : Jvm.MethodName) jdk_21_method_6_code (2 : Nat) (Option.some Jvm.ClassFile.FieldType.int)]
set_option maxRecDepth 65536 in
theorem codes_eq : words1.filter isCode = codes1 := rfl
theorem w_codes : ∀ c ∈ words1.filter isCode, c.before args0 about1 = true := by
  rw [codes_eq]
  intro c hc
  simp only [codes1, List.mem_cons, List.not_mem_nil, or_false] at hc
  rcases hc with rfl | rfl | rfl | rfl | rfl | rfl | rfl | rfl | rfl | rfl | rfl | rfl | rfl
  · exact w_c0
  · exact w_c1
  · exact w_c2
  · exact w_c3
  · exact w_c4
  · exact w_c5
  · exact w_c6
  · exact w_c7
  · exact w_c8
  · exact w_c9
  · exact w_c10
  · exact w_c11
  · exact w_c12
set_option maxRecDepth 65536 in
theorem w_t1 : (words1.take 24).all (fun c => isCode c || c.before args0 about1) = true := by decide +kernel
set_option maxRecDepth 65536 in
theorem w_t2 : ((words1.drop 24).take 24).all (fun c => isCode c || c.before args0 about1) = true := by decide +kernel
set_option maxRecDepth 65536 in
theorem w_t3 : (((words1.drop 24).drop 24).take 24).all (fun c => isCode c || c.before args0 about1) = true := by decide +kernel
set_option maxRecDepth 65536 in
theorem w_t4 : (((words1.drop 24).drop 24).drop 24).all (fun c => isCode c || c.before args0 about1) = true := by decide +kernel
theorem w_tables : (allAtoms (Jvm.Cond.code x code maxLocals ret :: tables_1)).before args0 about1 = true := by
  rw [allAtoms_all]
  show words1.all (fun c => c.before args0 about1) = true
  refine all_split ?_ w_codes
  rw [← List.take_append_drop 24 words1, List.all_append, w_t1, ← List.take_append_drop 24 (words1.drop 24), List.all_append, w_t2, ← List.take_append_drop 24 ((words1.drop 24).drop 24), List.all_append, w_t3, w_t4]
  rfl
set_option maxRecDepth 65536 in
theorem w_case : (Jvm.Cond.and given_1 narrow_1).before args0 about1 = true := by decide +kernel
theorem w_applies : (headSpec (Jvm.Cond.code x code maxLocals ret :: tables_1) room_1).applies x e0.platform about1 = true :=
  (Spec.applies_iff w_frames).mpr ⟨w_running, w_runnable, w_alone, w_named, w_hears, w_ripe, w_room, w_tables⟩
theorem atStart : AtStart classFile x code maxLocals ret World_1 tables_1 room_1 Calls_1 rest_1 Pre_1 launch0 p0 e0 about1 theMethod args0 below0 :=
  ⟨lists_1, trivial, launch0.admits_env _ _ _, launch0.least_env, fairChoices_fair.cas, fairChoices_fair.clock, w_frames, w_args, w_heap, w_applies, trivial, trivial, w_case⟩
end start1
theorem witness_1 : WitnessClaimed_1 := ⟨start1.p0, start1.e0, start1.about1, start1.theMethod, start1.args0, start1.below0, start1.atStart⟩
end Jvm.Pilot.@@N@@
