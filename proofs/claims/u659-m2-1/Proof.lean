import JvmDerived
import JvmDerived.Pilot.@@N@@Statement
import JvmDerived.Pilot.@@N@@Code
set_option linter.unusedVariables false
set_option linter.unusedSimpArgs false

namespace Jvm.RoadKit
open Sem ClassFile Op Lib Jvm.Stand Jvm.Free Jvm.LawKit
section New
variable {p : Program} {l : Launch} {e : Env} {R : Room} {s : State} {m : MethodId} {args : Array Value} {below : List Frame} {meth : Method} {c : Code} {T : State} {locs : List Loc} {cells slots : Nat}
theorem retI (X : Stand p l e R s m args below meth c T locs cells slots) (hx : p.tables.exec = Jvm.exec) {pc : Nat} {Ls : Array Slot} {z : Int32} {rest : List Value} (hret : meth.sig.returnType = some .int) (hd : decode c.code pc = .ok (.ireturn, 1)) {fs : List Frame}
    (hl : ∀ (f : JFrame) (acts : List Action), f.method = m → f.locked = none → f.entered = [] → (doReturn e (T.setTop f) acts (some (.int z))).1 = T.setFrames fs) : Steps p.tables e below (T.setTop (mkF m pc Ls (.int z :: rest))) (T.setFrames fs) := by
  have hm' : T.vm.method? m = some meth := X.method'
  have hn : narrow .int (.int z) = .int z := rfl
  show Steps p.tables e below (T.setTop { method := m, pc := pc, locals := Ls, stack := _ :: rest, locked := none }) _
  jvm_step X.here [X.here.top, hx, hd, hm', hret, hn]
  first | (intro acts; rw [hl _ acts rfl rfl rfl]) | rw [hl _ _ rfl rfl rfl]
  exact Steps.refl _
end New
end Jvm.RoadKit

namespace Jvm.Pilot.@@N@@
open Jvm Jvm.ClassFile Sem Op Lib Jvm.Free Jvm.Stand Jvm.LawKit Jvm.RoadKit Bundle Jvm.Pilot.@@N@@.Jvm.D

/-- an array of sixteen ints -/
def own_Ints (Z : State) (h : Heap) (b : Addr) : Prop := ∃ c : Cell, Arr Z h b c .int ∧ c.slots.size = 16 ∧ ∀ i, i < 16 → ∃ z : Int32, c.slots[i]? = some (.int z)
theorem own_Ints.fresh {Z : State} {h : Heap} {b : Addr} {k : ClassId} (A : Arr Z h b (newA k .int (16 : Int32)) .int) : own_Ints Z h b := by
  obtain ⟨c, A', -, s, -, H, -⟩ := Arv.new A (by decide)
  have s' : c.slots.size = 16 := s.trans (by decide)
  exact ⟨c, A', s', fun i hi => ⟨0, (H i (by omega)).trans (by simp [defaultValue])⟩⟩
theorem own_Ints.other {Z : State} {h h' : Heap} {a b : Addr} {sl : Nat} {v : Value} (F : own_Ints Z h b) (W : Wr h h' a sl v) (q : b ≠ a) : own_Ints Z h' b := by
  obtain ⟨c, A, r⟩ := F; exact ⟨c, A.other W q, r⟩
theorem own_Ints.ext {Z : State} {h h' : Heap} {b : Addr} (F : own_Ints Z h b) (E : Ext h h') : own_Ints Z h' b := by
  obtain ⟨c, A, r⟩ := F; exact ⟨c, A.ext E, r⟩
theorem own_Ints.keep {Z : State} {h h' : Heap} {b : Addr} {ws : List Addr} (F : own_Ints Z h b) (K : Keep h h' ws) (q : b ∉ ws) : own_Ints Z h' b := by
  obtain ⟨c, A, r⟩ := F; exact ⟨c, ⟨K.2.1 b c A.1 q, A.2⟩, r⟩
theorem own_Ints.set {Z : State} {h h' : Heap} {b : Addr} {c : Cell} {j : Nat} {x : Int32} (A : Arr Z h b c .int) (s : c.slots.size = 16) (H : ∀ i, i < 16 → ∃ z : Int32, c.slots[i]? = some (.int z)) (W : Wr h h' b j (.int x)) : own_Ints Z h' b := by
  have A' := A.same W
  obtain ⟨c', g1, -, -, g4, -, g6, g7⟩ := wr_at W A.1
  obtain ⟨g8, g9, -⟩ := g7 rfl
  rw [← g8] at A'
  refine ⟨c', A', g4.trans s, fun i hi => ?_⟩
  by_cases q : i = j
  · subst q; exact ⟨x, g9⟩
  · obtain ⟨z, hz⟩ := H i hi
    exact ⟨z, (g6 i q).trans hz⟩
theorem own_nat {k : Int32} (h0 : 0 ≤ k.toInt) : (k.toNatClampNeg : Int) = k.toInt := by
  show ((k.toInt.toNat : Nat) : Int) = k.toInt
  omega
theorem own_lt16 {k : Int32} (h0 : 0 ≤ k.toInt) (h1 : k.toInt < 16) : k.toNatClampNeg < 16 := by
  have h := own_nat h0
  omega
theorem own_in {k : Int32} {c : Cell} (hs : c.slots.size = 16) (h0 : 0 ≤ k.toInt) (h1 : k.toInt < 16) : ¬ (k < 0 ∨ c.slots.size ≤ k.toNatClampNeg) := by
  have h := own_lt16 h0 h1
  have e0 : (0 : Int32).toInt = 0 := rfl
  rw [Int32.lt_iff_toInt_lt, e0, hs]
  omega
theorem own_ne16 {k : Int32} (h1 : k.toInt ≤ 10) : ¬ (k = (16 : Int32)) := by
  intro q
  have e : (16 : Int32).toInt = 16 := rfl
  rw [q, e] at h1
  omega
theorem own_mask3 {a n : Int32} (h : n = (a &&& (3 : Int32))) : n = 0 ∨ n = 1 ∨ n = 2 ∨ n = 3 := by
  have h1 := c_mask a (3 : Int32) 2 (by decide) (by decide)
  rw [← h] at h1
  have hh : n.toInt = 0 ∨ n.toInt = 1 ∨ n.toInt = 2 ∨ n.toInt = 3 := by omega
  rcases hh with q | q | q | q
  · exact Or.inl (Int32.toInt_inj.mp q)
  · exact Or.inr (Or.inl (Int32.toInt_inj.mp q))
  · exact Or.inr (Or.inr (Or.inl (Int32.toInt_inj.mp q)))
  · exact Or.inr (Or.inr (Or.inr (Int32.toInt_inj.mp q)))
theorem own_nz {n : Int32} (h : n = 0 ∨ n = 1 ∨ n = 2 ∨ n = 3) : (n + (1 : Int32)) ≠ (0 : Int32) := by
  rcases h with rfl | rfl | rfl | rfl <;> decide
theorem own_rem {n b r : Int32} (h : n = 0 ∨ n = 1 ∨ n = 2 ∨ n = 3) (hr : r = ((b &&& (3 : Int32)) % (n + (1 : Int32)))) : (n = 0 ∧ r = 0) ∨ (n = 1 ∧ (r = 0 ∨ r = 1)) ∨ (n = 2 ∧ (r = 0 ∨ r = 1 ∨ r = 2)) ∨ (n = 3 ∧ (r = 0 ∨ r = 1 ∨ r = 2 ∨ r = 3)) := by
  obtain ⟨c, hc⟩ : ∃ z : Int32, z = (b &&& (3 : Int32)) := ⟨_, rfl⟩
  have gc := own_mask3 hc
  rw [← hc] at hr
  subst hr
  rcases h with rfl | rfl | rfl | rfl <;> rcases gc with rfl | rfl | rfl | rfl <;> decide
theorem own_plain {n r : Int32} (gn : n = 0 ∨ n = 1 ∨ n = 2 ∨ n = 3) (gr : (n = 0 ∧ r = 0) ∨ (n = 1 ∧ (r = 0 ∨ r = 1)) ∨ (n = 2 ∧ (r = 0 ∨ r = 1 ∨ r = 2)) ∨ (n = 3 ∧ (r = 0 ∨ r = 1 ∨ r = 2 ∨ r = 3))) :
    ∃ k1 k2 k3 k4 k5 k6 : Int32, (k1 = if n < (1 : Int32) then (0 : Int32) else (0 : Int32) + (1 : Int32)) ∧ (k2 = if n < (2 : Int32) then k1 else k1 + (1 : Int32)) ∧ (k3 = if n < (3 : Int32) then k2 else k2 + (1 : Int32)) ∧
      (k4 = if r < (1 : Int32) then k3 else k3 - (1 : Int32)) ∧ (k5 = if r < (2 : Int32) then k4 else k4 - (1 : Int32)) ∧ (k6 = if r < (3 : Int32) then k5 else k5 - (1 : Int32)) ∧
      (0 ≤ (0 : Int32).toInt ∧ (0 : Int32).toInt ≤ 10) ∧ (0 ≤ k1.toInt ∧ k1.toInt ≤ 10) ∧ (0 ≤ k2.toInt ∧ k2.toInt ≤ 10) ∧
      (¬ (r < (1 : Int32)) → 0 ≤ (k3 - (1 : Int32)).toInt ∧ (k3 - (1 : Int32)).toInt ≤ 10) ∧ (¬ (r < (2 : Int32)) → 0 ≤ (k4 - (1 : Int32)).toInt ∧ (k4 - (1 : Int32)).toInt ≤ 10) ∧ (¬ (r < (3 : Int32)) → 0 ≤ (k5 - (1 : Int32)).toInt ∧ (k5 - (1 : Int32)).toInt ≤ 10) ∧
      ((if (n - r) = (0 : Int32) then (1 : Int32) else (0 : Int32)) = if k6 = (0 : Int32) then (1 : Int32) else (0 : Int32)) := by
  refine ⟨_, _, _, _, _, _, rfl, rfl, rfl, rfl, rfl, rfl, ?_⟩
  rcases gr with ⟨rfl, rfl⟩ | ⟨rfl, rfl | rfl⟩ | ⟨rfl, rfl | rfl | rfl⟩ | ⟨rfl, rfl | rfl | rfl | rfl⟩ <;> decide

theorem d1_0 : decode prog_10_method_1_code 0 = .ok (.aload_n 0, 1) := by decide +kernel
theorem d1_1 : decode prog_10_method_1_code 1 = .ok (.invokespecial 1, 3) := by decide +kernel
theorem d1_4 : decode prog_10_method_1_code 4 = .ok (.aload_n 0, 1) := by decide +kernel
theorem d1_5 : decode prog_10_method_1_code 5 = .ok (.bipush 16, 2) := by decide +kernel
theorem d1_7 : decode prog_10_method_1_code 7 = .ok (.newarray .int, 2) := by decide +kernel
theorem d1_9 : decode prog_10_method_1_code 9 = .ok (.putfield 7, 3) := by decide +kernel
theorem d1_12 : decode prog_10_method_1_code 12 = .ok (.return_, 1) := by decide +kernel
theorem pn_1 : plainName "com/example/rollcall/rollcall/IntList" = true := by first | (simp [plainName, overriddenIn]; done) | decide +kernel
theorem ef_1 (m : MethodId) (x0 : Addr) : entryFrame m #[(.ref x0)] 1 = mkF m 0 #[.val (.ref x0)] [] := by first | (simp [entryFrame, mkF, argsToLocals, Value.category]; done) | rfl
def Q1 (Z : State) (a1 : Addr) (u0 : Value) (u1 : Value) (h0 : Heap) (n0 : Nat) (v : Option Value) (h : Heap) (L : List Loc) : Prop := v = none ∧ Fr n0 L ∧ Keep h0 h [a1] ∧ Exa Z h a1 "com/example/rollcall/rollcall/IntList" ∧ Fld Z h a1 "com/example/rollcall/rollcall/IntList" "size" "I" u1 ∧ ∃ b : Addr, n0 ≤ b ∧ h0.size ≤ b ∧ Fld Z h a1 "com/example/rollcall/rollcall/IntList" "items" "[I" (.ref b) ∧ own_Ints Z h b
set_option maxRecDepth 65536 in
set_option maxHeartbeats 40000000 in
theorem rm1 (l : Launch) (Z : State) (a0 : Array Value) (hw : ∀ d ∈ tables_1, d.before a0 Z = true) (ws : List Jvm.Cond) (a1 : Addr) (u0 : Value) (u1 : Value) (h0 : Heap) (n0 : Nat) (Z0 : n0 ≤ h0.size) (g_a1 : n0 ≤ a1) (E_a1 : Exa Z h0 a1 "com/example/rollcall/rollcall/IntList") (F_items : Fld Z h0 a1 "com/example/rollcall/rollcall/IntList" "items" "[I" u0) (F_size : Fld Z h0 a1 "com/example/rollcall/rollcall/IntList" "size" "I" u1) :
    MetFree l (⟨"com/example/rollcall/rollcall/IntList", "<init>", "()V"⟩ : MethodName) (head1 (Jvm.Cond.code (⟨"com/example/rollcall/rollcall/IntList", "<init>", "()V"⟩ : MethodName) prog_10_method_1_code 1 none :: ws) ({ frames := 1, cells := 1, slots := 16, locals := 12 } : Room)) (fun a U => a = #[(.ref a1)] ∧ Z.Warmed39 U.vm ∧ U.heap = h0) (fun _ _ _ _ _ => True) (fun _ U o U' => ∃ v L, o = .returned v ∧ Q1 Z a1 u0 u1 h0 n0 v U'.heap L ∧ FrameEnd U o U' L ({ frames := 1, cells := 1, slots := 16, locals := 12 } : Room).cells ({ frames := 1, cells := 1, slots := 16, locals := 12 } : Room).slots) := by
  refine MetFree.of_bodySF (plainFor_of_name pn_1) hisR ?_
  intro p e s m args below meth c s₁ Bd hml0 hP hK
  obtain ⟨rfl, hZ, hh⟩ := hP
  have hx := Bd.exec
  have hby := Bd.bytes
  have hml : c.maxLocals = 1 := hml0
  have hown : s.vm.findClass "com/example/rollcall/rollcall/IntList" = some m.cls := findClass_of_methodNamed Bd.named
  have hnm := (name_of_methodNamed Bd.named Bd.method).1
  have X0 : Stand p l e ({ frames := 1, cells := 1, slots := 16, locals := 12 } : Room) s m #[(.ref a1)] below meth c s₁ [] 0 0 := Stand.of_body Bd
  have e0 : s₁.heap = h0 := by rw [← hh, Bd.state]; rfl
  have N0 := Fr.nil n0
  have pre0 : ∀ t, Steps p.tables e below (s₁.setTop (mkF m 0 #[.val (.ref a1)] [])) t → Steps p.tables e below (s₁.setTop (entryFrame m #[(.ref a1)] 1)) t := fun t k => castTop (ef_1 m a1) k
  obtain ⟨T1, X1, e1, st1⟩ := initO X0 hx hZ hown (hw _ (List.mem_of_getElem? (i := 6) rfl)) (hw _ (List.mem_of_getElem? (i := 7) rfl)) (hw _ (List.mem_of_getElem? (i := 8) rfl)) e0 (g := (mkF m 1 #[.val (.ref a1)] [(.ref a1)])) rfl (by rw [hml]; rfl) rfl (hb hby d1_1) (by decide) (W := 0) (by show 2 * 0 + _ ≤ _; exact Nat.le_of_eq rfl) (by decide)
  obtain ⟨T2, h2, k2, X2, e2, E2, A2, st2⟩ := newP X1 hx hZ (hw _ (List.mem_of_getElem? (i := 9) rfl)) e1 (g := (mkF m 7 #[.val (.ref a1)] [(.int (16 : Int32)), (.ref a1)])) rfl (hb hby d1_7) rfl (by decide) (cap := 16) (by decide) (by decide) (by decide) (by decide)
  obtain ⟨b2, g2⟩ : ∃ z, z = h0.size := ⟨_, rfl⟩
  rw [← g2] at A2 st2
  have g_b2 : n0 ≤ b2 := Nat.le_trans Z0 (Nat.le_of_eq g2.symm)
  have sz_b2 : h0.size ≤ b2 := Nat.le_trans (Keep.refl h0 [a1]).1 (Nat.le_of_eq g2.symm)
  have ne_a1_b2 : a1 ≠ b2 := Nat.ne_of_lt (Nat.lt_of_lt_of_le E_a1.lt (Nat.le_of_eq g2.symm))
  have E_a1_h2 := (E_a1.ext E2)
  have F_items_h2 := (F_items.ext E2)
  have F_size_h2 := (F_size.ext E2)
  have Z2 := (Nat.le_trans Z0 E2.1)
  have KK2 := (Keep.refl h0 [a1]).ext E2
  have I_b2 := own_Ints.fresh A2
  obtain ⟨T3, h3, X3, e3, W3, st3⟩ := putF X2 hx hZ hown (host := "") (Or.inl (hw _ (List.mem_of_getElem? (i := 10) rfl))) Via.refl e2 F_items_h2 E_a1_h2 (Or.inl (hw _ (List.mem_of_getElem? (i := 11) rfl))) (hw _ (List.mem_of_getElem? (i := 1) rfl)) (ty := (.array .int)) (by decide) rfl rfl (g := (mkF m 9 #[.val (.ref a1)] [(.ref b2), (.ref a1)])) rfl rfl (hb hby d1_9)
  have Fw3 := F_items_h2.same W3
  have E_a1_h3 := (E_a1_h2.wr W3)
  have F_size_h3 := (F_size_h2.other W3 (Or.inr (slot_ne (Or.inl (hw _ (List.mem_of_getElem? (i := 18) rfl))) (Or.inl (hw _ (List.mem_of_getElem? (i := 11) rfl))) (by decide) (t := .int) (t' := (.array .int)) (by decide) (by decide))))
  have I_b2_h3 := (I_b2.other W3 (Ne.symm ne_a1_b2))
  have Z3 := (Nat.le_trans Z2 (Keep.of_wr W3).1)
  have KK3 := KK2.wr W3 (Or.inl (by simp))
  have N3 := Fr.snoc X3 N0 g_a1
  obtain ⟨fs, hr, hrun, hended, hW, hsame⟩ := X3.leave (v := none) (fun _ => rfl)
  refine ⟨_, _, pre0 _ ?_, hrun, hended, _, _, rfl, ?_, ⟨_, rfl⟩, hW, hsame.mono (by decide) (by decide)⟩
  · show Steps p.tables e below (s₁.setTop (mkF m 0 #[.val (.ref a1)] [])) _
    refine XS.aloadN X0.here hx rfl (hb hby d1_0) rfl rfl ?_
    show Steps p.tables e below (s₁.setTop (mkF m 1 #[.val (.ref a1)] [(.ref a1)])) _
    refine st1 _ ?_
    show Steps p.tables e below (T1.setTop (mkF m 4 #[.val (.ref a1)] [])) _
    refine XS.aloadN X1.here hx rfl (hb hby d1_4) rfl rfl ?_
    show Steps p.tables e below (T1.setTop (mkF m 5 #[.val (.ref a1)] [(.ref a1)])) _
    refine XS.bipush X1.here hx rfl (hb hby d1_5) ?_
    show Steps p.tables e below (T1.setTop (mkF m 7 #[.val (.ref a1)] [(.int (16 : Int32)), (.ref a1)])) _
    refine st2 _ ?_
    show Steps p.tables e below (T2.setTop (mkF m 9 #[.val (.ref a1)] [(.ref b2), (.ref a1)])) _
    refine st3 _ ?_
    show Steps p.tables e below (T3.setTop (mkF m 12 #[.val (.ref a1)] [])) _
    exact X3.returnOut hx Bd.returns (hb hby d1_12) hr
  · show Q1 Z a1 u0 u1 h0 n0 _ T3.heap _
    rw [e3]
    exact ⟨rfl, N3, KK3, E_a1_h3, F_size_h3, b2, g_b2, sz_b2, Fw3, I_b2_h3⟩

theorem d3_0 : decode prog_10_method_3_code 0 = .ok (.aload_n 0, 1) := by decide +kernel
theorem d3_1 : decode prog_10_method_3_code 1 = .ok (.getfield 13, 3) := by decide +kernel
theorem d3_4 : decode prog_10_method_3_code 4 = .ok (.ifCond .ne 7, 3) := by decide +kernel
theorem d3_7 : decode prog_10_method_3_code 7 = .ok (.iconst 1, 1) := by decide +kernel
theorem d3_8 : decode prog_10_method_3_code 8 = .ok (.goto 4, 3) := by decide +kernel
theorem d3_11 : decode prog_10_method_3_code 11 = .ok (.iconst 0, 1) := by decide +kernel
theorem d3_12 : decode prog_10_method_3_code 12 = .ok (.ireturn, 1) := by decide +kernel
theorem ef_3 (m : MethodId) (x0 : Addr) : entryFrame m #[(.ref x0)] 1 = mkF m 0 #[.val (.ref x0)] [] := by first | (simp [entryFrame, mkF, argsToLocals, Value.category]; done) | rfl
def Q3 (Z : State) (a1 : Addr) (w2 : Int32) (r : Int32) (h0 : Heap) (n0 : Nat) (v : Option Value) (h : Heap) (L : List Loc) : Prop := v = some (.int r) ∧ Fr n0 L ∧ h = h0
set_option maxRecDepth 65536 in
set_option maxHeartbeats 40000000 in
theorem rm3 (l : Launch) (Z : State) (a0 : Array Value) (hw : ∀ d ∈ tables_1, d.before a0 Z = true) (ws : List Jvm.Cond) (a1 : Addr) (w2 : Int32) (r : Int32) (h0 : Heap) (n0 : Nat) (Z0 : n0 ≤ h0.size) (F_size : Fld Z h0 a1 "com/example/rollcall/rollcall/IntList" "size" "I" (.int w2)) (hr0 : r = if w2 = (0 : Int32) then (1 : Int32) else (0 : Int32)) :
    MetFree l (⟨"com/example/rollcall/rollcall/IntList", "isEmpty", "()Z"⟩ : MethodName) (head1 (Jvm.Cond.code (⟨"com/example/rollcall/rollcall/IntList", "isEmpty", "()Z"⟩ : MethodName) prog_10_method_3_code 1 (some .boolean) :: ws) ({ frames := 0, cells := 0, slots := 0, locals := 0 } : Room)) (fun a U => a = #[(.ref a1)] ∧ Z.Warmed39 U.vm ∧ U.heap = h0) (fun _ _ _ _ _ => True) (fun _ U o U' => ∃ v L, o = .returned v ∧ Q3 Z a1 w2 r h0 n0 v U'.heap L ∧ FrameEnd U o U' L ({ frames := 0, cells := 0, slots := 0, locals := 0 } : Room).cells ({ frames := 0, cells := 0, slots := 0, locals := 0 } : Room).slots) := by
  refine MetFree.of_bodySF (plainFor_of_name pn_1) hisR ?_
  intro p e s m args below meth c s₁ Bd hml0 hP hK
  obtain ⟨rfl, hZ, hh⟩ := hP
  have hx := Bd.exec
  have hby := Bd.bytes
  have hml : c.maxLocals = 1 := hml0
  have hown : s.vm.findClass "com/example/rollcall/rollcall/IntList" = some m.cls := findClass_of_methodNamed Bd.named
  have hnm := (name_of_methodNamed Bd.named Bd.method).1
  have X0 : Stand p l e ({ frames := 0, cells := 0, slots := 0, locals := 0 } : Room) s m #[(.ref a1)] below meth c s₁ [] 0 0 := Stand.of_body Bd
  have e0 : s₁.heap = h0 := by rw [← hh, Bd.state]; rfl
  have N0 := Fr.nil n0
  have pre0 : ∀ t, Steps p.tables e below (s₁.setTop (mkF m 0 #[.val (.ref a1)] [])) t → Steps p.tables e below (s₁.setTop (entryFrame m #[(.ref a1)] 1)) t := fun t k => castTop (ef_3 m a1) k
  obtain ⟨T1, X1, e1, st1⟩ := getF X0 hx hZ hown (host := "") (Or.inl (hw _ (List.mem_of_getElem? (i := 17) rfl))) Via.refl e0 F_size (g := (mkF m 1 #[.val (.ref a1)] [(.ref a1)])) rfl rfl (hb hby d3_1)
  obtain ⟨b2, hb2⟩ : ∃ z : Int32, z = (if w2 = (0 : Int32) then (1 : Int32) else (0 : Int32)) := ⟨_, rfl⟩
  have st2 : ∀ t, Steps p.tables e below (T1.setTop (mkF m 12 #[.val (.ref a1)] [(.int b2)])) t → Steps p.tables e below (T1.setTop (mkF m 4 #[.val (.ref a1)] [(.int w2)])) t := by
    intro t k
    by_cases hcs1 : w2 = (0 : Int32)
    · skip
      rw [if_pos hcs1] at hb2
      rw [hb2] at k
      show Steps p.tables e below (T1.setTop (mkF m 4 #[.val (.ref a1)] [(.int w2)])) _
      refine XS.ifNo X1.here hx rfl (hb hby d3_4) rfl ((if0 _ _).trans (teq hcs1).2) ?_
      show Steps p.tables e below (T1.setTop (mkF m 7 #[.val (.ref a1)] [])) _
      refine XS.iconst X1.here hx rfl (hb hby d3_7) ?_
      show Steps p.tables e below (T1.setTop (mkF m 8 #[.val (.ref a1)] [(.int (1 : Int32))])) _
      refine XS.goto X1.here hx rfl (pc0 := 8) (pc' := 12) rfl (hb hby d3_8) (by decide) (by decide) ?_
      exact k
    · skip
      rw [if_neg hcs1] at hb2
      rw [hb2] at k
      show Steps p.tables e below (T1.setTop (mkF m 4 #[.val (.ref a1)] [(.int w2)])) _
      refine XS.ifYes X1.here hx rfl (pc0 := 4) (pc' := 11) rfl (hb hby d3_4) rfl ((if0 _ _).trans (feq hcs1).2) (by decide) (by decide) ?_
      show Steps p.tables e below (T1.setTop (mkF m 11 #[.val (.ref a1)] [])) _
      refine XS.iconst X1.here hx rfl (hb hby d3_11) ?_
      exact k
  have hnar : nar .boolean b2 = b2 := by
    rw [hb2]
    repeat' split
    all_goals rfl
  obtain ⟨fs, hr, hrun, hended, hW, hsame⟩ := X1.leave (v := some (.int b2)) (fun h => by rw [Bd.returns] at h; cases h)
  refine ⟨_, _, pre0 _ ?_, hrun, hended, _, _, rfl, ?_, ⟨_, rfl⟩, hW, hsame.mono (by decide) (by decide)⟩
  · show Steps p.tables e below (s₁.setTop (mkF m 0 #[.val (.ref a1)] [])) _
    refine XS.aloadN X0.here hx rfl (hb hby d3_0) rfl rfl ?_
    show Steps p.tables e below (s₁.setTop (mkF m 1 #[.val (.ref a1)] [(.ref a1)])) _
    refine st1 _ ?_
    show Steps p.tables e below (T1.setTop (mkF m 4 #[.val (.ref a1)] [(.int w2)])) _
    refine st2 _ ?_
    show Steps p.tables e below (T1.setTop (mkF m 12 #[.val (.ref a1)] [(.int b2)])) _
    exact retN X1 hx (t := .boolean) Bd.returns (by simp) (hb hby d3_12) (by rw [hnar]; exact hr)
  · show Q3 Z a1 w2 r h0 n0 _ T1.heap _
    rw [e1]
    exact ⟨by rw [hb2, hr0], N0, rfl⟩

theorem d4_0 : decode prog_10_method_2_code 0 = .ok (.aload_n 0, 1) := by decide +kernel
theorem d4_1 : decode prog_10_method_2_code 1 = .ok (.getfield 13, 3) := by decide +kernel
theorem d4_4 : decode prog_10_method_2_code 4 = .ok (.aload_n 0, 1) := by decide +kernel
theorem d4_5 : decode prog_10_method_2_code 5 = .ok (.getfield 7, 3) := by decide +kernel
theorem d4_8 : decode prog_10_method_2_code 8 = .ok (.arraylength, 1) := by decide +kernel
theorem d4_9 : decode prog_10_method_2_code 9 = .ok (.if_icmp .ne 31, 3) := by decide +kernel
theorem d4_40 : decode prog_10_method_2_code 40 = .ok (.aload_n 0, 1) := by decide +kernel
theorem d4_41 : decode prog_10_method_2_code 41 = .ok (.getfield 7, 3) := by decide +kernel
theorem d4_44 : decode prog_10_method_2_code 44 = .ok (.aload_n 0, 1) := by decide +kernel
theorem d4_45 : decode prog_10_method_2_code 45 = .ok (.getfield 13, 3) := by decide +kernel
theorem d4_48 : decode prog_10_method_2_code 48 = .ok (.iload_n 1, 1) := by decide +kernel
theorem d4_49 : decode prog_10_method_2_code 49 = .ok (.iastore, 1) := by decide +kernel
theorem d4_50 : decode prog_10_method_2_code 50 = .ok (.aload_n 0, 1) := by decide +kernel
theorem d4_51 : decode prog_10_method_2_code 51 = .ok (.dup, 1) := by decide +kernel
theorem d4_52 : decode prog_10_method_2_code 52 = .ok (.getfield 13, 3) := by decide +kernel
theorem d4_55 : decode prog_10_method_2_code 55 = .ok (.iconst 1, 1) := by decide +kernel
theorem d4_56 : decode prog_10_method_2_code 56 = .ok (.iadd, 1) := by decide +kernel
theorem d4_57 : decode prog_10_method_2_code 57 = .ok (.putfield 13, 3) := by decide +kernel
theorem d4_60 : decode prog_10_method_2_code 60 = .ok (.return_, 1) := by decide +kernel
theorem ef_4 (m : MethodId) (x0 : Addr) (x1 : Int32) : entryFrame m #[(.ref x0), (.int x1)] 3 = mkF m 0 #[.val (.ref x0), .val (.int x1), .unset] [] := by first | (simp [entryFrame, mkF, argsToLocals, Value.category]; done) | rfl
def Q4 (Z : State) (a1 : Addr) (p2 : Int32) (b : Addr) (k : Int32) (h0 : Heap) (n0 : Nat) (v : Option Value) (h : Heap) (L : List Loc) : Prop := v = none ∧ Fr n0 L ∧ Keep h0 h [a1, b] ∧ Exa Z h a1 "com/example/rollcall/rollcall/IntList" ∧ Fld Z h a1 "com/example/rollcall/rollcall/IntList" "items" "[I" (.ref b) ∧ Fld Z h a1 "com/example/rollcall/rollcall/IntList" "size" "I" (.int (k + (1 : Int32))) ∧ own_Ints Z h b
set_option maxRecDepth 65536 in
set_option maxHeartbeats 40000000 in
theorem rm4 (l : Launch) (Z : State) (a0 : Array Value) (hw : ∀ d ∈ tables_1, d.before a0 Z = true) (ws : List Jvm.Cond) (a1 : Addr) (p2 : Int32) (b : Addr) (k : Int32) (h0 : Heap) (n0 : Nat) (Z0 : n0 ≤ h0.size) (g_a1 : n0 ≤ a1) (g_b : n0 ≤ b) (ne_ab : a1 ≠ b) (E_a1 : Exa Z h0 a1 "com/example/rollcall/rollcall/IntList") (F_items : Fld Z h0 a1 "com/example/rollcall/rollcall/IntList" "items" "[I" (.ref b)) (F_size : Fld Z h0 a1 "com/example/rollcall/rollcall/IntList" "size" "I" (.int k)) (I_b : own_Ints Z h0 b) (hk0 : 0 ≤ k.toInt) (hk1 : k.toInt ≤ 10) :
    MetFree l (⟨"com/example/rollcall/rollcall/IntList", "add", "(I)V"⟩ : MethodName) (head1 (Jvm.Cond.code (⟨"com/example/rollcall/rollcall/IntList", "add", "(I)V"⟩ : MethodName) prog_10_method_2_code 3 none :: ws) ({ frames := 0, cells := 0, slots := 0, locals := 0 } : Room)) (fun a U => a = #[(.ref a1), (.int p2)] ∧ Z.Warmed39 U.vm ∧ U.heap = h0) (fun _ _ _ _ _ => True) (fun _ U o U' => ∃ v L, o = .returned v ∧ Q4 Z a1 p2 b k h0 n0 v U'.heap L ∧ FrameEnd U o U' L ({ frames := 0, cells := 0, slots := 0, locals := 0 } : Room).cells ({ frames := 0, cells := 0, slots := 0, locals := 0 } : Room).slots) := by
  refine MetFree.of_bodySF (plainFor_of_name pn_1) hisR ?_
  intro p e s m args below meth c s₁ Bd hml0 hP hK
  obtain ⟨rfl, hZ, hh⟩ := hP
  have hx := Bd.exec
  have hby := Bd.bytes
  have hml : c.maxLocals = 3 := hml0
  have hown : s.vm.findClass "com/example/rollcall/rollcall/IntList" = some m.cls := findClass_of_methodNamed Bd.named
  have hnm := (name_of_methodNamed Bd.named Bd.method).1
  have X0 : Stand p l e ({ frames := 0, cells := 0, slots := 0, locals := 0 } : Room) s m #[(.ref a1), (.int p2)] below meth c s₁ [] 0 0 := Stand.of_body Bd
  have e0 : s₁.heap = h0 := by rw [← hh, Bd.state]; rfl
  have N0 := Fr.nil n0
  have pre0 : ∀ t, Steps p.tables e below (s₁.setTop (mkF m 0 #[.val (.ref a1), .val (.int p2), .unset] [])) t → Steps p.tables e below (s₁.setTop (entryFrame m #[(.ref a1), (.int p2)] 3)) t := fun t k => castTop (ef_4 m a1 p2) k
  obtain ⟨cl, Ar, hsz, hel⟩ := I_b
  obtain ⟨T1, X1, e1, st1⟩ := getF X0 hx hZ hown (host := "") (Or.inl (hw _ (List.mem_of_getElem? (i := 17) rfl))) Via.refl e0 F_size (g := (mkF m 1 #[.val (.ref a1), .val (.int p2), .unset] [(.ref a1)])) rfl rfl (hb hby d4_1)
  obtain ⟨T2, X2, e2, st2⟩ := getF X1 hx hZ hown (host := "") (Or.inl (hw _ (List.mem_of_getElem? (i := 10) rfl))) Via.refl e1 F_items (g := (mkF m 5 #[.val (.ref a1), .val (.int p2), .unset] [(.ref a1), (.int k)])) rfl rfl (hb hby d4_5)
  obtain ⟨T3, X3, e3, st3⟩ := getF X2 hx hZ hown (host := "") (Or.inl (hw _ (List.mem_of_getElem? (i := 10) rfl))) Via.refl e2 F_items (g := (mkF m 41 #[.val (.ref a1), .val (.int p2), .unset] [(.ref a1)])) rfl rfl (hb hby d4_41)
  obtain ⟨T4, X4, e4, st4⟩ := getF X3 hx hZ hown (host := "") (Or.inl (hw _ (List.mem_of_getElem? (i := 17) rfl))) Via.refl e3 F_size (g := (mkF m 45 #[.val (.ref a1), .val (.int p2), .unset] [(.ref a1), (.ref b)])) rfl rfl (hb hby d4_45)
  obtain ⟨T5, h5, X5, e5, W5, st5⟩ := stI X4 hx hZ e4 Ar (j := k) (own_in hsz hk0 (by omega)) (g := (mkF m 49 #[.val (.ref a1), .val (.int p2), .unset] [(.int p2), (.int k), (.ref b)])) rfl rfl (hb hby d4_49)
  have E_a1_h5 := (E_a1.wr W5)
  have F_items_h5 := (F_items.other W5 (Or.inl ne_ab))
  have F_size_h5 := (F_size.other W5 (Or.inl ne_ab))
  have Z5 := (Nat.le_trans Z0 (Keep.of_wr W5).1)
  have KK5 := (Keep.refl h0 [a1, b]).wr W5 (Or.inl (by simp))
  have N5 := Fr.snoc X5 N0 g_b
  have I_b' := own_Ints.set Ar hsz hel W5
  obtain ⟨T6, X6, e6, st6⟩ := getF X5 hx hZ hown (host := "") (Or.inl (hw _ (List.mem_of_getElem? (i := 17) rfl))) Via.refl e5 F_size_h5 (g := (mkF m 52 #[.val (.ref a1), .val (.int p2), .unset] [(.ref a1), (.ref a1)])) rfl rfl (hb hby d4_52)
  obtain ⟨T7, h7, X7, e7, W7, st7⟩ := putF X6 hx hZ hown (host := "") (Or.inl (hw _ (List.mem_of_getElem? (i := 17) rfl))) Via.refl e6 F_size_h5 E_a1_h5 (Or.inl (hw _ (List.mem_of_getElem? (i := 18) rfl))) (hw _ (List.mem_of_getElem? (i := 1) rfl)) (ty := .int) (by decide) rfl rfl (g := (mkF m 57 #[.val (.ref a1), .val (.int p2), .unset] [(.int (k + (1 : Int32))), (.ref a1)])) rfl rfl (hb hby d4_57)
  have Fw7 := F_size_h5.same W7
  have E_a1_h7 := (E_a1_h5.wr W7)
  have F_items_h7 := (F_items_h5.other W7 (Or.inr (slot_ne (Or.inl (hw _ (List.mem_of_getElem? (i := 11) rfl))) (Or.inl (hw _ (List.mem_of_getElem? (i := 18) rfl))) (by decide) (t := (.array .int)) (t' := .int) (by decide) (by decide))))
  have I_b'_h7 := (I_b'.other W7 (Ne.symm ne_ab))
  have Z7 := (Nat.le_trans Z5 (Keep.of_wr W7).1)
  have KK7 := KK5.wr W7 (Or.inl (by simp))
  have N7 := Fr.snoc X7 N5 g_a1
  obtain ⟨fs, hr, hrun, hended, hW, hsame⟩ := X7.leave (v := none) (fun _ => rfl)
  refine ⟨_, _, pre0 _ ?_, hrun, hended, _, _, rfl, ?_, ⟨_, rfl⟩, hW, hsame.mono (by decide) (by decide)⟩
  · show Steps p.tables e below (s₁.setTop (mkF m 0 #[.val (.ref a1), .val (.int p2), .unset] [])) _
    refine XS.aloadN X0.here hx rfl (hb hby d4_0) rfl rfl ?_
    show Steps p.tables e below (s₁.setTop (mkF m 1 #[.val (.ref a1), .val (.int p2), .unset] [(.ref a1)])) _
    refine st1 _ ?_
    show Steps p.tables e below (T1.setTop (mkF m 4 #[.val (.ref a1), .val (.int p2), .unset] [(.int k)])) _
    refine XS.aloadN X1.here hx rfl (hb hby d4_4) rfl rfl ?_
    show Steps p.tables e below (T1.setTop (mkF m 5 #[.val (.ref a1), .val (.int p2), .unset] [(.ref a1), (.int k)])) _
    refine st2 _ ?_
    show Steps p.tables e below (T2.setTop (mkF m 8 #[.val (.ref a1), .val (.int p2), .unset] [(.ref b), (.int k)])) _
    refine X2.arraylength hx (by rw [e2]; exact Ar.1) (State.isArrayOf_alike hZ.alike Ar.2.1) (g := (mkF m 8 #[.val (.ref a1), .val (.int p2), .unset] [(.ref b), (.int k)])) rfl rfl (hb hby d4_8) _ ?_
    rw [len_of (hsz.trans (by decide : 16 = (16 : Int32).toNatClampNeg)) (by decide)]
    show Steps p.tables e below (T2.setTop (mkF m 9 #[.val (.ref a1), .val (.int p2), .unset] [(.int (16 : Int32)), (.int k)])) _
    refine XS.icmpYes X2.here hx rfl (pc0 := 9) (pc' := 40) rfl (hb hby d4_9) rfl (feq (own_ne16 hk1 : ¬ (k = (16 : Int32)))).2 (by decide) (by decide) ?_
    show Steps p.tables e below (T2.setTop (mkF m 40 #[.val (.ref a1), .val (.int p2), .unset] [])) _
    refine XS.aloadN X2.here hx rfl (hb hby d4_40) rfl rfl ?_
    show Steps p.tables e below (T2.setTop (mkF m 41 #[.val (.ref a1), .val (.int p2), .unset] [(.ref a1)])) _
    refine st3 _ ?_
    show Steps p.tables e below (T3.setTop (mkF m 44 #[.val (.ref a1), .val (.int p2), .unset] [(.ref b)])) _
    refine XS.aloadN X3.here hx rfl (hb hby d4_44) rfl rfl ?_
    show Steps p.tables e below (T3.setTop (mkF m 45 #[.val (.ref a1), .val (.int p2), .unset] [(.ref a1), (.ref b)])) _
    refine st4 _ ?_
    show Steps p.tables e below (T4.setTop (mkF m 48 #[.val (.ref a1), .val (.int p2), .unset] [(.int k), (.ref b)])) _
    refine XS.iloadN X4.here hx rfl (hb hby d4_48) rfl ?_
    show Steps p.tables e below (T4.setTop (mkF m 49 #[.val (.ref a1), .val (.int p2), .unset] [(.int p2), (.int k), (.ref b)])) _
    refine st5 _ ?_
    show Steps p.tables e below (T5.setTop (mkF m 50 #[.val (.ref a1), .val (.int p2), .unset] [])) _
    refine XS.aloadN X5.here hx rfl (hb hby d4_50) rfl rfl ?_
    show Steps p.tables e below (T5.setTop (mkF m 51 #[.val (.ref a1), .val (.int p2), .unset] [(.ref a1)])) _
    refine XS.dup X5.here hx rfl (hb hby d4_51) rfl rfl ?_
    show Steps p.tables e below (T5.setTop (mkF m 52 #[.val (.ref a1), .val (.int p2), .unset] [(.ref a1), (.ref a1)])) _
    refine st6 _ ?_
    show Steps p.tables e below (T6.setTop (mkF m 55 #[.val (.ref a1), .val (.int p2), .unset] [(.int k), (.ref a1)])) _
    refine XS.iconst X6.here hx rfl (hb hby d4_55) ?_
    show Steps p.tables e below (T6.setTop (mkF m 56 #[.val (.ref a1), .val (.int p2), .unset] [(.int (1 : Int32)), (.int k), (.ref a1)])) _
    refine XS.iadd X6.here hx rfl (hb hby d4_56) rfl ?_
    show Steps p.tables e below (T6.setTop (mkF m 57 #[.val (.ref a1), .val (.int p2), .unset] [(.int (k + (1 : Int32))), (.ref a1)])) _
    refine st7 _ ?_
    show Steps p.tables e below (T7.setTop (mkF m 60 #[.val (.ref a1), .val (.int p2), .unset] [])) _
    exact X7.returnOut hx Bd.returns (hb hby d4_60) hr
  · show Q4 Z a1 p2 b k h0 n0 _ T7.heap _
    rw [e7]
    exact ⟨rfl, N7, KK7, E_a1_h7, F_items_h7, Fw7, I_b'_h7⟩

theorem d5_0 : decode prog_10_method_5_code 0 = .ok (.aload_n 0, 1) := by decide +kernel
theorem d5_1 : decode prog_10_method_5_code 1 = .ok (.dup, 1) := by decide +kernel
theorem d5_2 : decode prog_10_method_5_code 2 = .ok (.getfield 13, 3) := by decide +kernel
theorem d5_5 : decode prog_10_method_5_code 5 = .ok (.iconst 1, 1) := by decide +kernel
theorem d5_6 : decode prog_10_method_5_code 6 = .ok (.isub, 1) := by decide +kernel
theorem d5_7 : decode prog_10_method_5_code 7 = .ok (.putfield 13, 3) := by decide +kernel
theorem d5_10 : decode prog_10_method_5_code 10 = .ok (.aload_n 0, 1) := by decide +kernel
theorem d5_11 : decode prog_10_method_5_code 11 = .ok (.getfield 7, 3) := by decide +kernel
theorem d5_14 : decode prog_10_method_5_code 14 = .ok (.aload_n 0, 1) := by decide +kernel
theorem d5_15 : decode prog_10_method_5_code 15 = .ok (.getfield 13, 3) := by decide +kernel
theorem d5_18 : decode prog_10_method_5_code 18 = .ok (.iaload, 1) := by decide +kernel
theorem d5_19 : decode prog_10_method_5_code 19 = .ok (.ireturn, 1) := by decide +kernel
theorem ef_5 (m : MethodId) (x0 : Addr) : entryFrame m #[(.ref x0)] 1 = mkF m 0 #[.val (.ref x0)] [] := by first | (simp [entryFrame, mkF, argsToLocals, Value.category]; done) | rfl
def Q5 (Z : State) (a1 : Addr) (b : Addr) (k : Int32) (cl : Cell) (z : Int32) (h0 : Heap) (n0 : Nat) (v : Option Value) (h : Heap) (L : List Loc) : Prop := v = some (.int z) ∧ Fr n0 L ∧ Keep h0 h [a1] ∧ Exa Z h a1 "com/example/rollcall/rollcall/IntList" ∧ Fld Z h a1 "com/example/rollcall/rollcall/IntList" "items" "[I" (.ref b) ∧ Fld Z h a1 "com/example/rollcall/rollcall/IntList" "size" "I" (.int (k - (1 : Int32)))
set_option maxRecDepth 65536 in
set_option maxHeartbeats 40000000 in
theorem rm5 (l : Launch) (Z : State) (a0 : Array Value) (hw : ∀ d ∈ tables_1, d.before a0 Z = true) (ws : List Jvm.Cond) (a1 : Addr) (b : Addr) (k : Int32) (cl : Cell) (z : Int32) (h0 : Heap) (n0 : Nat) (Z0 : n0 ≤ h0.size) (g_a1 : n0 ≤ a1) (g_b : n0 ≤ b) (ne_ab : a1 ≠ b) (E_a1 : Exa Z h0 a1 "com/example/rollcall/rollcall/IntList") (F_items : Fld Z h0 a1 "com/example/rollcall/rollcall/IntList" "items" "[I" (.ref b)) (F_size : Fld Z h0 a1 "com/example/rollcall/rollcall/IntList" "size" "I" (.int k)) (Ar : Arr Z h0 b cl .int) (hsz : cl.slots.size = 16) (hz : cl.slots[(k - (1 : Int32)).toNatClampNeg]? = some (.int z)) (hk0 : 0 ≤ (k - (1 : Int32)).toInt) (hk1 : (k - (1 : Int32)).toInt ≤ 10) :
    MetFree l (⟨"com/example/rollcall/rollcall/IntList", "removeLast", "()I"⟩ : MethodName) (head1 (Jvm.Cond.code (⟨"com/example/rollcall/rollcall/IntList", "removeLast", "()I"⟩ : MethodName) prog_10_method_5_code 1 (some .int) :: ws) ({ frames := 0, cells := 0, slots := 0, locals := 0 } : Room)) (fun a U => a = #[(.ref a1)] ∧ Z.Warmed39 U.vm ∧ U.heap = h0) (fun _ _ _ _ _ => True) (fun _ U o U' => ∃ v L, o = .returned v ∧ Q5 Z a1 b k cl z h0 n0 v U'.heap L ∧ FrameEnd U o U' L ({ frames := 0, cells := 0, slots := 0, locals := 0 } : Room).cells ({ frames := 0, cells := 0, slots := 0, locals := 0 } : Room).slots) := by
  refine MetFree.of_bodySF (plainFor_of_name pn_1) hisR ?_
  intro p e s m args below meth c s₁ Bd hml0 hP hK
  obtain ⟨rfl, hZ, hh⟩ := hP
  have hx := Bd.exec
  have hby := Bd.bytes
  have hml : c.maxLocals = 1 := hml0
  have hown : s.vm.findClass "com/example/rollcall/rollcall/IntList" = some m.cls := findClass_of_methodNamed Bd.named
  have hnm := (name_of_methodNamed Bd.named Bd.method).1
  have X0 : Stand p l e ({ frames := 0, cells := 0, slots := 0, locals := 0 } : Room) s m #[(.ref a1)] below meth c s₁ [] 0 0 := Stand.of_body Bd
  have e0 : s₁.heap = h0 := by rw [← hh, Bd.state]; rfl
  have N0 := Fr.nil n0
  have pre0 : ∀ t, Steps p.tables e below (s₁.setTop (mkF m 0 #[.val (.ref a1)] [])) t → Steps p.tables e below (s₁.setTop (entryFrame m #[(.ref a1)] 1)) t := fun t k => castTop (ef_5 m a1) k
  obtain ⟨T1, X1, e1, st1⟩ := getF X0 hx hZ hown (host := "") (Or.inl (hw _ (List.mem_of_getElem? (i := 17) rfl))) Via.refl e0 F_size (g := (mkF m 2 #[.val (.ref a1)] [(.ref a1), (.ref a1)])) rfl rfl (hb hby d5_2)
  obtain ⟨T2, h2, X2, e2, W2, st2⟩ := putF X1 hx hZ hown (host := "") (Or.inl (hw _ (List.mem_of_getElem? (i := 17) rfl))) Via.refl e1 F_size E_a1 (Or.inl (hw _ (List.mem_of_getElem? (i := 18) rfl))) (hw _ (List.mem_of_getElem? (i := 1) rfl)) (ty := .int) (by decide) rfl rfl (g := (mkF m 7 #[.val (.ref a1)] [(.int (k - (1 : Int32))), (.ref a1)])) rfl rfl (hb hby d5_7)
  have Fw2 := F_size.same W2
  have E_a1_h2 := (E_a1.wr W2)
  have F_items_h2 := (F_items.other W2 (Or.inr (slot_ne (Or.inl (hw _ (List.mem_of_getElem? (i := 11) rfl))) (Or.inl (hw _ (List.mem_of_getElem? (i := 18) rfl))) (by decide) (t := (.array .int)) (t' := .int) (by decide) (by decide))))
  have Z2 := (Nat.le_trans Z0 (Keep.of_wr W2).1)
  have KK2 := (Keep.refl h0 [a1]).wr W2 (Or.inl (by simp))
  have N2 := Fr.snoc X2 N0 g_a1
  have Ar' := Ar.other W2 (Ne.symm ne_ab)
  obtain ⟨T3, X3, e3, st3⟩ := getF X2 hx hZ hown (host := "") (Or.inl (hw _ (List.mem_of_getElem? (i := 10) rfl))) Via.refl e2 F_items_h2 (g := (mkF m 11 #[.val (.ref a1)] [(.ref a1)])) rfl rfl (hb hby d5_11)
  obtain ⟨T4, X4, e4, st4⟩ := getF X3 hx hZ hown (host := "") (Or.inl (hw _ (List.mem_of_getElem? (i := 17) rfl))) Via.refl e3 Fw2 (g := (mkF m 15 #[.val (.ref a1)] [(.ref a1), (.ref b)])) rfl rfl (hb hby d5_15)
  obtain ⟨fs, hr, hrun, hended, hW, hsame⟩ := X4.leave (v := some (.int z)) (fun h => by rw [Bd.returns] at h; cases h)
  refine ⟨_, _, pre0 _ ?_, hrun, hended, _, _, rfl, ?_, ⟨_, rfl⟩, hW, hsame.mono (by decide) (by decide)⟩
  · show Steps p.tables e below (s₁.setTop (mkF m 0 #[.val (.ref a1)] [])) _
    refine XS.aloadN X0.here hx rfl (hb hby d5_0) rfl rfl ?_
    show Steps p.tables e below (s₁.setTop (mkF m 1 #[.val (.ref a1)] [(.ref a1)])) _
    refine XS.dup X0.here hx rfl (hb hby d5_1) rfl rfl ?_
    show Steps p.tables e below (s₁.setTop (mkF m 2 #[.val (.ref a1)] [(.ref a1), (.ref a1)])) _
    refine st1 _ ?_
    show Steps p.tables e below (T1.setTop (mkF m 5 #[.val (.ref a1)] [(.int k), (.ref a1)])) _
    refine XS.iconst X1.here hx rfl (hb hby d5_5) ?_
    show Steps p.tables e below (T1.setTop (mkF m 6 #[.val (.ref a1)] [(.int (1 : Int32)), (.int k), (.ref a1)])) _
    refine XS.isub X1.here hx rfl (hb hby d5_6) rfl ?_
    show Steps p.tables e below (T1.setTop (mkF m 7 #[.val (.ref a1)] [(.int (k - (1 : Int32))), (.ref a1)])) _
    refine st2 _ ?_
    show Steps p.tables e below (T2.setTop (mkF m 10 #[.val (.ref a1)] [])) _
    refine XS.aloadN X2.here hx rfl (hb hby d5_10) rfl rfl ?_
    show Steps p.tables e below (T2.setTop (mkF m 11 #[.val (.ref a1)] [(.ref a1)])) _
    refine st3 _ ?_
    show Steps p.tables e below (T3.setTop (mkF m 14 #[.val (.ref a1)] [(.ref b)])) _
    refine XS.aloadN X3.here hx rfl (hb hby d5_14) rfl rfl ?_
    show Steps p.tables e below (T3.setTop (mkF m 15 #[.val (.ref a1)] [(.ref a1), (.ref b)])) _
    refine st4 _ ?_
    show Steps p.tables e below (T4.setTop (mkF m 18 #[.val (.ref a1)] [(.int (k - (1 : Int32))), (.ref b)])) _
    refine X4.iaload hx (j := (k - (1 : Int32))) (v := (.int z)) (by rw [e4]; exact Ar'.1) (State.isArrayOf_alike hZ.alike Ar'.2.1) Ar'.2.2 (own_in hsz hk0 (by omega)) hz (g := (mkF m 18 #[.val (.ref a1)] [(.int (k - (1 : Int32))), (.ref b)])) rfl rfl (hb hby d5_18) _ ?_
    show Steps p.tables e below (T4.setTop (mkF m 19 #[.val (.ref a1)] [(.int z)])) _
    exact retI X4 hx Bd.returns (hb hby d5_19) hr
  · show Q5 Z a1 b k cl z h0 n0 _ T4.heap _
    rw [e4]
    exact ⟨rfl, N2, KK2, E_a1_h2, F_items_h2, Fw2⟩

theorem pd_0 : parseMethodDescriptor "(I)V" = some ⟨[.int], none⟩ := by decide +kernel
set_option maxRecDepth 65536 in
set_option maxHeartbeats 40000000 in
theorem own_s1 {p : Program} {l : Launch} {e : Env} {s : State} {m : MethodId} {args : Array Value} {below : List Frame} {meth : Method} {c : Code} {T0 : State} {locs : List Loc} {Z : State} {a0 : Array Value} {h0 : Heap} {n0 : Nat} (p1 p2 p3 p4 nn rr : Int32) (o b : Addr) (k k' : Int32)
    (X0 : Stand p l e room_1 s m args below meth c T0 locs 2 18) (hx : p.tables.exec = Jvm.exec) (hZ : Z.Warmed39 s.vm) (hw : ∀ d ∈ tables_1, d.before a0 Z = true) (hby : c.code = code) (hml : c.maxLocals = 9) (hown : s.vm.findClass "com/example/rollcall/rollcall/IntListIsEmptyPinLaw" = some m.cls) (e0 : T0.heap = h0) (Z0 : n0 ≤ h0.size) (N0 : Fr n0 locs) (g_o : n0 ≤ o) (g_b : n0 ≤ b) (ne_ob : o ≠ b) (E_o : Exa Z h0 o "com/example/rollcall/rollcall/IntList") (F_items : Fld Z h0 o "com/example/rollcall/rollcall/IntList" "items" "[I" (.ref b)) (F_size : Fld Z h0 o "com/example/rollcall/rollcall/IntList" "size" "I" (.int k)) (I_b : own_Ints Z h0 b) (hk0 : 0 ≤ k.toInt) (hk1 : k.toInt ≤ 10) (hk' : k' = if nn < (1 : Int32) then k else k + (1 : Int32)) :
    ∃ (T' : State) (h' : Heap) (locs' : List Loc), Stand p l e room_1 s m args below meth c T' locs' 2 18 ∧ T'.heap = h' ∧ Fr n0 locs' ∧ n0 ≤ h'.size ∧ Exa Z h' o "com/example/rollcall/rollcall/IntList" ∧ Fld Z h' o "com/example/rollcall/rollcall/IntList" "items" "[I" (.ref b) ∧ Fld Z h' o "com/example/rollcall/rollcall/IntList" "size" "I" (.int k') ∧ own_Ints Z h' b ∧ ∀ t, Steps p.tables e below (T'.setTop (mkF m 43 #[.val (.int p1), .val (.int p2), .val (.int p3), .val (.int p4), .val (.int nn), .val (.int rr), .val (.ref o), .val (.int (1 : Int32)), .unset] [])) t → Steps p.tables e below (T0.setTop (mkF m 31 #[.val (.int p1), .val (.int p2), .val (.int p3), .val (.int p4), .val (.int nn), .val (.int rr), .val (.ref o), .val (.int (1 : Int32)), .unset] [])) t := by
  by_cases q : nn < (1 : Int32)
  · rw [if_pos q] at hk'; subst hk'
    refine ⟨_, _, _, X0, e0, N0, Z0, E_o, F_items, F_size, I_b, fun t kt => ?_⟩
    show Steps p.tables e below (T0.setTop (mkF m 31 #[.val (.int p1), .val (.int p2), .val (.int p3), .val (.int p4), .val (.int nn), .val (.int rr), .val (.ref o), .val (.int (1 : Int32)), .unset] [])) _
    refine XS.iload X0.here hx rfl (hb hby at_31) rfl ?_
    show Steps p.tables e below (T0.setTop (mkF m 33 #[.val (.int p1), .val (.int p2), .val (.int p3), .val (.int p4), .val (.int nn), .val (.int rr), .val (.ref o), .val (.int (1 : Int32)), .unset] [(.int nn)])) _
    refine XS.iconst X0.here hx rfl (hb hby at_33) ?_
    show Steps p.tables e below (T0.setTop (mkF m 34 #[.val (.int p1), .val (.int p2), .val (.int p3), .val (.int p4), .val (.int nn), .val (.int rr), .val (.ref o), .val (.int (1 : Int32)), .unset] [(.int (1 : Int32)), (.int nn)])) _
    refine XS.icmpYes X0.here hx rfl (pc0 := 34) (pc' := 43) rfl (hb hby at_34) rfl (tlt (q : nn < (1 : Int32))).1 (by decide) (by decide) ?_
    exact kt
  · rw [if_neg q] at hk'; subst hk'
    obtain ⟨cq1, kq1, q1a, q1b, q1c⟩ := isOf hZ e0 E_o
    obtain ⟨_, _, ⟨T1, L1, k1, n1⟩, -, X1, ⟨Lc1, hQ1, l1, y1, z1⟩, st1⟩ := X0.virtualBack hx (y := (⟨"com/example/rollcall/rollcall/IntList", "add", "(I)V"⟩ : MethodName)) (z := (⟨"com/example/rollcall/rollcall/IntList", "add", "(I)V"⟩ : MethodName)) hown (mvT hZ (hw _ (List.mem_of_getElem? (i := 19) rfl))) (mvT hZ (hw _ (List.mem_of_getElem? (i := 20) rfl))) (notFace_of_selects (args := #[]) (mvT hZ (hw _ (List.mem_of_getElem? (i := 22) rfl)))) (mvT hZ (hw _ (List.mem_of_getElem? (i := 22) rfl))) (mvT hZ (hw _ (List.mem_of_getElem? (i := 21) rfl))) (by decide) (backOf (W := 0) (rm4 l Z a0 hw [] o p3 b k h0 n0 Z0 g_o g_b ne_ob E_o F_items F_size I_b hk0 hk1) hZ (hw _ (List.mem_of_getElem? (i := 23) rfl)) (hw _ (List.mem_of_getElem? (i := 2) rfl)) (by decide) (by decide)) q1a q1c (g := (mkF m 40 #[.val (.int p1), .val (.int p2), .val (.int p3), .val (.int p4), .val (.int nn), .val (.int rr), .val (.ref o), .val (.int (1 : Int32)), .unset] [(.int p3), (.ref o)])) rfl (by rw [hml]; rfl) (Steps.refl _) (argsL := [(.int p3)]) (rest := []) (lenOf pd_0 rfl) rfl (by show 2 * 0 + _ ≤ _; exact Nat.le_of_eq rfl) (hb hby at_40) (fun _ _ => ⟨rfl, e0, (by decide : 2 + 0 ≤ _), (by decide : 18 + 0 ≤ _)⟩)
    dsimp only [Pt.U, Pt.locs, Pt.cells, Pt.slots] at X1 l1 y1 z1 st1 hQ1
    subst l1 y1 z1
    obtain ⟨rfl, N1q, K1, Eo1, Fi1, Fs1, I1⟩ := hQ1
    have N1 := Fr.app N0 N1q
    have E_o_h1 := (E_o.keep K1)
    have Z1 := (Nat.le_trans Z0 K1.1)
    refine ⟨_, _, _, X1, rfl, N1, Z1, Eo1, Fi1, Fs1, I1, fun t kt => ?_⟩
    show Steps p.tables e below (T0.setTop (mkF m 31 #[.val (.int p1), .val (.int p2), .val (.int p3), .val (.int p4), .val (.int nn), .val (.int rr), .val (.ref o), .val (.int (1 : Int32)), .unset] [])) _
    refine XS.iload X0.here hx rfl (hb hby at_31) rfl ?_
    show Steps p.tables e below (T0.setTop (mkF m 33 #[.val (.int p1), .val (.int p2), .val (.int p3), .val (.int p4), .val (.int nn), .val (.int rr), .val (.ref o), .val (.int (1 : Int32)), .unset] [(.int nn)])) _
    refine XS.iconst X0.here hx rfl (hb hby at_33) ?_
    show Steps p.tables e below (T0.setTop (mkF m 34 #[.val (.int p1), .val (.int p2), .val (.int p3), .val (.int p4), .val (.int nn), .val (.int rr), .val (.ref o), .val (.int (1 : Int32)), .unset] [(.int (1 : Int32)), (.int nn)])) _
    refine XS.icmpNo X0.here hx rfl (hb hby at_34) rfl (flt (q : ¬ (nn < (1 : Int32)))).1 ?_
    show Steps p.tables e below (T0.setTop (mkF m 37 #[.val (.int p1), .val (.int p2), .val (.int p3), .val (.int p4), .val (.int nn), .val (.int rr), .val (.ref o), .val (.int (1 : Int32)), .unset] [])) _
    refine XS.aload X0.here hx rfl (hb hby at_37) rfl rfl ?_
    show Steps p.tables e below (T0.setTop (mkF m 39 #[.val (.int p1), .val (.int p2), .val (.int p3), .val (.int p4), .val (.int nn), .val (.int rr), .val (.ref o), .val (.int (1 : Int32)), .unset] [(.ref o)])) _
    refine XS.iloadN X0.here hx rfl (hb hby at_39) rfl ?_
    show Steps p.tables e below (T0.setTop (mkF m 40 #[.val (.int p1), .val (.int p2), .val (.int p3), .val (.int p4), .val (.int nn), .val (.int rr), .val (.ref o), .val (.int (1 : Int32)), .unset] [(.int p3), (.ref o)])) _
    refine st1.trans ?_
    exact kt

set_option maxRecDepth 65536 in
set_option maxHeartbeats 40000000 in
theorem own_s2 {p : Program} {l : Launch} {e : Env} {s : State} {m : MethodId} {args : Array Value} {below : List Frame} {meth : Method} {c : Code} {T0 : State} {locs : List Loc} {Z : State} {a0 : Array Value} {h0 : Heap} {n0 : Nat} (p1 p2 p3 p4 nn rr : Int32) (o b : Addr) (k k' : Int32)
    (X0 : Stand p l e room_1 s m args below meth c T0 locs 2 18) (hx : p.tables.exec = Jvm.exec) (hZ : Z.Warmed39 s.vm) (hw : ∀ d ∈ tables_1, d.before a0 Z = true) (hby : c.code = code) (hml : c.maxLocals = 9) (hown : s.vm.findClass "com/example/rollcall/rollcall/IntListIsEmptyPinLaw" = some m.cls) (e0 : T0.heap = h0) (Z0 : n0 ≤ h0.size) (N0 : Fr n0 locs) (g_o : n0 ≤ o) (g_b : n0 ≤ b) (ne_ob : o ≠ b) (E_o : Exa Z h0 o "com/example/rollcall/rollcall/IntList") (F_items : Fld Z h0 o "com/example/rollcall/rollcall/IntList" "items" "[I" (.ref b)) (F_size : Fld Z h0 o "com/example/rollcall/rollcall/IntList" "size" "I" (.int k)) (I_b : own_Ints Z h0 b) (hk0 : 0 ≤ k.toInt) (hk1 : k.toInt ≤ 10) (hk' : k' = if nn < (2 : Int32) then k else k + (1 : Int32)) :
    ∃ (T' : State) (h' : Heap) (locs' : List Loc), Stand p l e room_1 s m args below meth c T' locs' 2 18 ∧ T'.heap = h' ∧ Fr n0 locs' ∧ n0 ≤ h'.size ∧ Exa Z h' o "com/example/rollcall/rollcall/IntList" ∧ Fld Z h' o "com/example/rollcall/rollcall/IntList" "items" "[I" (.ref b) ∧ Fld Z h' o "com/example/rollcall/rollcall/IntList" "size" "I" (.int k') ∧ own_Ints Z h' b ∧ ∀ t, Steps p.tables e below (T'.setTop (mkF m 55 #[.val (.int p1), .val (.int p2), .val (.int p3), .val (.int p4), .val (.int nn), .val (.int rr), .val (.ref o), .val (.int (1 : Int32)), .unset] [])) t → Steps p.tables e below (T0.setTop (mkF m 43 #[.val (.int p1), .val (.int p2), .val (.int p3), .val (.int p4), .val (.int nn), .val (.int rr), .val (.ref o), .val (.int (1 : Int32)), .unset] [])) t := by
  by_cases q : nn < (2 : Int32)
  · rw [if_pos q] at hk'; subst hk'
    refine ⟨_, _, _, X0, e0, N0, Z0, E_o, F_items, F_size, I_b, fun t kt => ?_⟩
    show Steps p.tables e below (T0.setTop (mkF m 43 #[.val (.int p1), .val (.int p2), .val (.int p3), .val (.int p4), .val (.int nn), .val (.int rr), .val (.ref o), .val (.int (1 : Int32)), .unset] [])) _
    refine XS.iload X0.here hx rfl (hb hby at_43) rfl ?_
    show Steps p.tables e below (T0.setTop (mkF m 45 #[.val (.int p1), .val (.int p2), .val (.int p3), .val (.int p4), .val (.int nn), .val (.int rr), .val (.ref o), .val (.int (1 : Int32)), .unset] [(.int nn)])) _
    refine XS.iconst X0.here hx rfl (hb hby at_45) ?_
    show Steps p.tables e below (T0.setTop (mkF m 46 #[.val (.int p1), .val (.int p2), .val (.int p3), .val (.int p4), .val (.int nn), .val (.int rr), .val (.ref o), .val (.int (1 : Int32)), .unset] [(.int (2 : Int32)), (.int nn)])) _
    refine XS.icmpYes X0.here hx rfl (pc0 := 46) (pc' := 55) rfl (hb hby at_46) rfl (tlt (q : nn < (2 : Int32))).1 (by decide) (by decide) ?_
    exact kt
  · rw [if_neg q] at hk'; subst hk'
    obtain ⟨cq1, kq1, q1a, q1b, q1c⟩ := isOf hZ e0 E_o
    obtain ⟨_, _, ⟨T1, L1, k1, n1⟩, -, X1, ⟨Lc1, hQ1, l1, y1, z1⟩, st1⟩ := X0.virtualBack hx (y := (⟨"com/example/rollcall/rollcall/IntList", "add", "(I)V"⟩ : MethodName)) (z := (⟨"com/example/rollcall/rollcall/IntList", "add", "(I)V"⟩ : MethodName)) hown (mvT hZ (hw _ (List.mem_of_getElem? (i := 19) rfl))) (mvT hZ (hw _ (List.mem_of_getElem? (i := 20) rfl))) (notFace_of_selects (args := #[]) (mvT hZ (hw _ (List.mem_of_getElem? (i := 22) rfl)))) (mvT hZ (hw _ (List.mem_of_getElem? (i := 22) rfl))) (mvT hZ (hw _ (List.mem_of_getElem? (i := 21) rfl))) (by decide) (backOf (W := 0) (rm4 l Z a0 hw [] o p4 b k h0 n0 Z0 g_o g_b ne_ob E_o F_items F_size I_b hk0 hk1) hZ (hw _ (List.mem_of_getElem? (i := 23) rfl)) (hw _ (List.mem_of_getElem? (i := 2) rfl)) (by decide) (by decide)) q1a q1c (g := (mkF m 52 #[.val (.int p1), .val (.int p2), .val (.int p3), .val (.int p4), .val (.int nn), .val (.int rr), .val (.ref o), .val (.int (1 : Int32)), .unset] [(.int p4), (.ref o)])) rfl (by rw [hml]; rfl) (Steps.refl _) (argsL := [(.int p4)]) (rest := []) (lenOf pd_0 rfl) rfl (by show 2 * 0 + _ ≤ _; exact Nat.le_of_eq rfl) (hb hby at_52) (fun _ _ => ⟨rfl, e0, (by decide : 2 + 0 ≤ _), (by decide : 18 + 0 ≤ _)⟩)
    dsimp only [Pt.U, Pt.locs, Pt.cells, Pt.slots] at X1 l1 y1 z1 st1 hQ1
    subst l1 y1 z1
    obtain ⟨rfl, N1q, K1, Eo1, Fi1, Fs1, I1⟩ := hQ1
    have N1 := Fr.app N0 N1q
    have E_o_h1 := (E_o.keep K1)
    have Z1 := (Nat.le_trans Z0 K1.1)
    refine ⟨_, _, _, X1, rfl, N1, Z1, Eo1, Fi1, Fs1, I1, fun t kt => ?_⟩
    show Steps p.tables e below (T0.setTop (mkF m 43 #[.val (.int p1), .val (.int p2), .val (.int p3), .val (.int p4), .val (.int nn), .val (.int rr), .val (.ref o), .val (.int (1 : Int32)), .unset] [])) _
    refine XS.iload X0.here hx rfl (hb hby at_43) rfl ?_
    show Steps p.tables e below (T0.setTop (mkF m 45 #[.val (.int p1), .val (.int p2), .val (.int p3), .val (.int p4), .val (.int nn), .val (.int rr), .val (.ref o), .val (.int (1 : Int32)), .unset] [(.int nn)])) _
    refine XS.iconst X0.here hx rfl (hb hby at_45) ?_
    show Steps p.tables e below (T0.setTop (mkF m 46 #[.val (.int p1), .val (.int p2), .val (.int p3), .val (.int p4), .val (.int nn), .val (.int rr), .val (.ref o), .val (.int (1 : Int32)), .unset] [(.int (2 : Int32)), (.int nn)])) _
    refine XS.icmpNo X0.here hx rfl (hb hby at_46) rfl (flt (q : ¬ (nn < (2 : Int32)))).1 ?_
    show Steps p.tables e below (T0.setTop (mkF m 49 #[.val (.int p1), .val (.int p2), .val (.int p3), .val (.int p4), .val (.int nn), .val (.int rr), .val (.ref o), .val (.int (1 : Int32)), .unset] [])) _
    refine XS.aload X0.here hx rfl (hb hby at_49) rfl rfl ?_
    show Steps p.tables e below (T0.setTop (mkF m 51 #[.val (.int p1), .val (.int p2), .val (.int p3), .val (.int p4), .val (.int nn), .val (.int rr), .val (.ref o), .val (.int (1 : Int32)), .unset] [(.ref o)])) _
    refine XS.iloadN X0.here hx rfl (hb hby at_51) rfl ?_
    show Steps p.tables e below (T0.setTop (mkF m 52 #[.val (.int p1), .val (.int p2), .val (.int p3), .val (.int p4), .val (.int nn), .val (.int rr), .val (.ref o), .val (.int (1 : Int32)), .unset] [(.int p4), (.ref o)])) _
    refine st1.trans ?_
    exact kt

set_option maxRecDepth 65536 in
set_option maxHeartbeats 40000000 in
theorem own_s3 {p : Program} {l : Launch} {e : Env} {s : State} {m : MethodId} {args : Array Value} {below : List Frame} {meth : Method} {c : Code} {T0 : State} {locs : List Loc} {Z : State} {a0 : Array Value} {h0 : Heap} {n0 : Nat} (p1 p2 p3 p4 nn rr : Int32) (o b : Addr) (k k' : Int32)
    (X0 : Stand p l e room_1 s m args below meth c T0 locs 2 18) (hx : p.tables.exec = Jvm.exec) (hZ : Z.Warmed39 s.vm) (hw : ∀ d ∈ tables_1, d.before a0 Z = true) (hby : c.code = code) (hml : c.maxLocals = 9) (hown : s.vm.findClass "com/example/rollcall/rollcall/IntListIsEmptyPinLaw" = some m.cls) (e0 : T0.heap = h0) (Z0 : n0 ≤ h0.size) (N0 : Fr n0 locs) (g_o : n0 ≤ o) (g_b : n0 ≤ b) (ne_ob : o ≠ b) (E_o : Exa Z h0 o "com/example/rollcall/rollcall/IntList") (F_items : Fld Z h0 o "com/example/rollcall/rollcall/IntList" "items" "[I" (.ref b)) (F_size : Fld Z h0 o "com/example/rollcall/rollcall/IntList" "size" "I" (.int k)) (I_b : own_Ints Z h0 b) (hk0 : 0 ≤ k.toInt) (hk1 : k.toInt ≤ 10) (hk' : k' = if nn < (3 : Int32) then k else k + (1 : Int32)) :
    ∃ (T' : State) (h' : Heap) (locs' : List Loc), Stand p l e room_1 s m args below meth c T' locs' 2 18 ∧ T'.heap = h' ∧ Fr n0 locs' ∧ n0 ≤ h'.size ∧ Exa Z h' o "com/example/rollcall/rollcall/IntList" ∧ Fld Z h' o "com/example/rollcall/rollcall/IntList" "items" "[I" (.ref b) ∧ Fld Z h' o "com/example/rollcall/rollcall/IntList" "size" "I" (.int k') ∧ own_Ints Z h' b ∧ ∀ t, Steps p.tables e below (T'.setTop (mkF m 67 #[.val (.int p1), .val (.int p2), .val (.int p3), .val (.int p4), .val (.int nn), .val (.int rr), .val (.ref o), .val (.int (1 : Int32)), .unset] [])) t → Steps p.tables e below (T0.setTop (mkF m 55 #[.val (.int p1), .val (.int p2), .val (.int p3), .val (.int p4), .val (.int nn), .val (.int rr), .val (.ref o), .val (.int (1 : Int32)), .unset] [])) t := by
  by_cases q : nn < (3 : Int32)
  · rw [if_pos q] at hk'; subst hk'
    refine ⟨_, _, _, X0, e0, N0, Z0, E_o, F_items, F_size, I_b, fun t kt => ?_⟩
    show Steps p.tables e below (T0.setTop (mkF m 55 #[.val (.int p1), .val (.int p2), .val (.int p3), .val (.int p4), .val (.int nn), .val (.int rr), .val (.ref o), .val (.int (1 : Int32)), .unset] [])) _
    refine XS.iload X0.here hx rfl (hb hby at_55) rfl ?_
    show Steps p.tables e below (T0.setTop (mkF m 57 #[.val (.int p1), .val (.int p2), .val (.int p3), .val (.int p4), .val (.int nn), .val (.int rr), .val (.ref o), .val (.int (1 : Int32)), .unset] [(.int nn)])) _
    refine XS.iconst X0.here hx rfl (hb hby at_57) ?_
    show Steps p.tables e below (T0.setTop (mkF m 58 #[.val (.int p1), .val (.int p2), .val (.int p3), .val (.int p4), .val (.int nn), .val (.int rr), .val (.ref o), .val (.int (1 : Int32)), .unset] [(.int (3 : Int32)), (.int nn)])) _
    refine XS.icmpYes X0.here hx rfl (pc0 := 58) (pc' := 67) rfl (hb hby at_58) rfl (tlt (q : nn < (3 : Int32))).1 (by decide) (by decide) ?_
    exact kt
  · rw [if_neg q] at hk'; subst hk'
    obtain ⟨cq1, kq1, q1a, q1b, q1c⟩ := isOf hZ e0 E_o
    obtain ⟨_, _, ⟨T1, L1, k1, n1⟩, -, X1, ⟨Lc1, hQ1, l1, y1, z1⟩, st1⟩ := X0.virtualBack hx (y := (⟨"com/example/rollcall/rollcall/IntList", "add", "(I)V"⟩ : MethodName)) (z := (⟨"com/example/rollcall/rollcall/IntList", "add", "(I)V"⟩ : MethodName)) hown (mvT hZ (hw _ (List.mem_of_getElem? (i := 19) rfl))) (mvT hZ (hw _ (List.mem_of_getElem? (i := 20) rfl))) (notFace_of_selects (args := #[]) (mvT hZ (hw _ (List.mem_of_getElem? (i := 22) rfl)))) (mvT hZ (hw _ (List.mem_of_getElem? (i := 22) rfl))) (mvT hZ (hw _ (List.mem_of_getElem? (i := 21) rfl))) (by decide) (backOf (W := 0) (rm4 l Z a0 hw [] o p3 b k h0 n0 Z0 g_o g_b ne_ob E_o F_items F_size I_b hk0 hk1) hZ (hw _ (List.mem_of_getElem? (i := 23) rfl)) (hw _ (List.mem_of_getElem? (i := 2) rfl)) (by decide) (by decide)) q1a q1c (g := (mkF m 64 #[.val (.int p1), .val (.int p2), .val (.int p3), .val (.int p4), .val (.int nn), .val (.int rr), .val (.ref o), .val (.int (1 : Int32)), .unset] [(.int p3), (.ref o)])) rfl (by rw [hml]; rfl) (Steps.refl _) (argsL := [(.int p3)]) (rest := []) (lenOf pd_0 rfl) rfl (by show 2 * 0 + _ ≤ _; exact Nat.le_of_eq rfl) (hb hby at_64) (fun _ _ => ⟨rfl, e0, (by decide : 2 + 0 ≤ _), (by decide : 18 + 0 ≤ _)⟩)
    dsimp only [Pt.U, Pt.locs, Pt.cells, Pt.slots] at X1 l1 y1 z1 st1 hQ1
    subst l1 y1 z1
    obtain ⟨rfl, N1q, K1, Eo1, Fi1, Fs1, I1⟩ := hQ1
    have N1 := Fr.app N0 N1q
    have E_o_h1 := (E_o.keep K1)
    have Z1 := (Nat.le_trans Z0 K1.1)
    refine ⟨_, _, _, X1, rfl, N1, Z1, Eo1, Fi1, Fs1, I1, fun t kt => ?_⟩
    show Steps p.tables e below (T0.setTop (mkF m 55 #[.val (.int p1), .val (.int p2), .val (.int p3), .val (.int p4), .val (.int nn), .val (.int rr), .val (.ref o), .val (.int (1 : Int32)), .unset] [])) _
    refine XS.iload X0.here hx rfl (hb hby at_55) rfl ?_
    show Steps p.tables e below (T0.setTop (mkF m 57 #[.val (.int p1), .val (.int p2), .val (.int p3), .val (.int p4), .val (.int nn), .val (.int rr), .val (.ref o), .val (.int (1 : Int32)), .unset] [(.int nn)])) _
    refine XS.iconst X0.here hx rfl (hb hby at_57) ?_
    show Steps p.tables e below (T0.setTop (mkF m 58 #[.val (.int p1), .val (.int p2), .val (.int p3), .val (.int p4), .val (.int nn), .val (.int rr), .val (.ref o), .val (.int (1 : Int32)), .unset] [(.int (3 : Int32)), (.int nn)])) _
    refine XS.icmpNo X0.here hx rfl (hb hby at_58) rfl (flt (q : ¬ (nn < (3 : Int32)))).1 ?_
    show Steps p.tables e below (T0.setTop (mkF m 61 #[.val (.int p1), .val (.int p2), .val (.int p3), .val (.int p4), .val (.int nn), .val (.int rr), .val (.ref o), .val (.int (1 : Int32)), .unset] [])) _
    refine XS.aload X0.here hx rfl (hb hby at_61) rfl rfl ?_
    show Steps p.tables e below (T0.setTop (mkF m 63 #[.val (.int p1), .val (.int p2), .val (.int p3), .val (.int p4), .val (.int nn), .val (.int rr), .val (.ref o), .val (.int (1 : Int32)), .unset] [(.ref o)])) _
    refine XS.iloadN X0.here hx rfl (hb hby at_63) rfl ?_
    show Steps p.tables e below (T0.setTop (mkF m 64 #[.val (.int p1), .val (.int p2), .val (.int p3), .val (.int p4), .val (.int nn), .val (.int rr), .val (.ref o), .val (.int (1 : Int32)), .unset] [(.int p3), (.ref o)])) _
    refine st1.trans ?_
    exact kt

theorem pd_1 : parseMethodDescriptor "()I" = some ⟨[], some .int⟩ := by decide +kernel
set_option maxRecDepth 65536 in
set_option maxHeartbeats 40000000 in
theorem own_s4 {p : Program} {l : Launch} {e : Env} {s : State} {m : MethodId} {args : Array Value} {below : List Frame} {meth : Method} {c : Code} {T0 : State} {locs : List Loc} {Z : State} {a0 : Array Value} {h0 : Heap} {n0 : Nat} (p1 p2 p3 p4 nn rr : Int32) (o b : Addr) (k k' : Int32)
    (X0 : Stand p l e room_1 s m args below meth c T0 locs 2 18) (hx : p.tables.exec = Jvm.exec) (hZ : Z.Warmed39 s.vm) (hw : ∀ d ∈ tables_1, d.before a0 Z = true) (hby : c.code = code) (hml : c.maxLocals = 9) (hown : s.vm.findClass "com/example/rollcall/rollcall/IntListIsEmptyPinLaw" = some m.cls) (e0 : T0.heap = h0) (Z0 : n0 ≤ h0.size) (N0 : Fr n0 locs) (g_o : n0 ≤ o) (g_b : n0 ≤ b) (ne_ob : o ≠ b) (E_o : Exa Z h0 o "com/example/rollcall/rollcall/IntList") (F_items : Fld Z h0 o "com/example/rollcall/rollcall/IntList" "items" "[I" (.ref b)) (F_size : Fld Z h0 o "com/example/rollcall/rollcall/IntList" "size" "I" (.int k)) (I_b : own_Ints Z h0 b) (hk : ¬ (rr < (1 : Int32)) → 0 ≤ (k - (1 : Int32)).toInt ∧ (k - (1 : Int32)).toInt ≤ 10) (hk' : k' = if rr < (1 : Int32) then k else k - (1 : Int32)) :
    ∃ (T' : State) (h' : Heap) (locs' : List Loc), Stand p l e room_1 s m args below meth c T' locs' 2 18 ∧ T'.heap = h' ∧ Fr n0 locs' ∧ n0 ≤ h'.size ∧ Exa Z h' o "com/example/rollcall/rollcall/IntList" ∧ Fld Z h' o "com/example/rollcall/rollcall/IntList" "items" "[I" (.ref b) ∧ Fld Z h' o "com/example/rollcall/rollcall/IntList" "size" "I" (.int k') ∧ own_Ints Z h' b ∧ ∀ t, Steps p.tables e below (T'.setTop (mkF m 79 #[.val (.int p1), .val (.int p2), .val (.int p3), .val (.int p4), .val (.int nn), .val (.int rr), .val (.ref o), .val (.int (1 : Int32)), .unset] [])) t → Steps p.tables e below (T0.setTop (mkF m 67 #[.val (.int p1), .val (.int p2), .val (.int p3), .val (.int p4), .val (.int nn), .val (.int rr), .val (.ref o), .val (.int (1 : Int32)), .unset] [])) t := by
  by_cases q : rr < (1 : Int32)
  · rw [if_pos q] at hk'; subst hk'
    refine ⟨_, _, _, X0, e0, N0, Z0, E_o, F_items, F_size, I_b, fun t kt => ?_⟩
    show Steps p.tables e below (T0.setTop (mkF m 67 #[.val (.int p1), .val (.int p2), .val (.int p3), .val (.int p4), .val (.int nn), .val (.int rr), .val (.ref o), .val (.int (1 : Int32)), .unset] [])) _
    refine XS.iload X0.here hx rfl (hb hby at_67) rfl ?_
    show Steps p.tables e below (T0.setTop (mkF m 69 #[.val (.int p1), .val (.int p2), .val (.int p3), .val (.int p4), .val (.int nn), .val (.int rr), .val (.ref o), .val (.int (1 : Int32)), .unset] [(.int rr)])) _
    refine XS.iconst X0.here hx rfl (hb hby at_69) ?_
    show Steps p.tables e below (T0.setTop (mkF m 70 #[.val (.int p1), .val (.int p2), .val (.int p3), .val (.int p4), .val (.int nn), .val (.int rr), .val (.ref o), .val (.int (1 : Int32)), .unset] [(.int (1 : Int32)), (.int rr)])) _
    refine XS.icmpYes X0.here hx rfl (pc0 := 70) (pc' := 79) rfl (hb hby at_70) rfl (tlt (q : rr < (1 : Int32))).1 (by decide) (by decide) ?_
    exact kt
  · rw [if_neg q] at hk'; subst hk'
    have I_b0 := I_b
    obtain ⟨cl, Ar, hsz, hel⟩ := I_b
    obtain ⟨hk0, hk1⟩ := hk q
    obtain ⟨z, hz⟩ := hel (k - (1 : Int32)).toNatClampNeg (own_lt16 hk0 (by omega))
    obtain ⟨cq1, kq1, q1a, q1b, q1c⟩ := isOf hZ e0 E_o
    obtain ⟨_, _, ⟨T1, L1, k1, n1⟩, -, X1, ⟨Lc1, hQ1, l1, y1, z1⟩, st1⟩ := X0.virtualBack hx (y := (⟨"com/example/rollcall/rollcall/IntList", "removeLast", "()I"⟩ : MethodName)) (z := (⟨"com/example/rollcall/rollcall/IntList", "removeLast", "()I"⟩ : MethodName)) hown (mvT hZ (hw _ (List.mem_of_getElem? (i := 24) rfl))) (mvT hZ (hw _ (List.mem_of_getElem? (i := 25) rfl))) (notFace_of_selects (args := #[]) (mvT hZ (hw _ (List.mem_of_getElem? (i := 27) rfl)))) (mvT hZ (hw _ (List.mem_of_getElem? (i := 27) rfl))) (mvT hZ (hw _ (List.mem_of_getElem? (i := 26) rfl))) (by decide) (backOf (W := 0) (rm5 l Z a0 hw [] o b k cl z h0 n0 Z0 g_o g_b ne_ob E_o F_items F_size Ar hsz hz hk0 hk1) hZ (hw _ (List.mem_of_getElem? (i := 28) rfl)) (hw _ (List.mem_of_getElem? (i := 2) rfl)) (by decide) (by decide)) q1a q1c (g := (mkF m 75 #[.val (.int p1), .val (.int p2), .val (.int p3), .val (.int p4), .val (.int nn), .val (.int rr), .val (.ref o), .val (.int (1 : Int32)), .unset] [(.ref o)])) rfl (by rw [hml]; rfl) (Steps.refl _) (argsL := []) (rest := []) (lenOf pd_1 rfl) rfl (by show 2 * 0 + _ ≤ _; exact Nat.le_of_eq rfl) (hb hby at_75) (fun _ _ => ⟨rfl, e0, (by decide : 2 + 0 ≤ _), (by decide : 18 + 0 ≤ _)⟩)
    dsimp only [Pt.U, Pt.locs, Pt.cells, Pt.slots] at X1 l1 y1 z1 st1 hQ1
    subst l1 y1 z1
    obtain ⟨rfl, N1q, K1, Eo1, Fi1, Fs1⟩ := hQ1
    have N1 := Fr.app N0 N1q
    have E_o_h1 := (E_o.keep K1)
    have I_b_h1 := (I_b0.keep K1 (by simp only [List.mem_cons, List.not_mem_nil, or_false, not_or]; exact (Ne.symm ne_ob)))
    have Z1 := (Nat.le_trans Z0 K1.1)
    refine ⟨_, _, _, X1, rfl, N1, Z1, Eo1, Fi1, Fs1, I_b_h1, fun t kt => ?_⟩
    show Steps p.tables e below (T0.setTop (mkF m 67 #[.val (.int p1), .val (.int p2), .val (.int p3), .val (.int p4), .val (.int nn), .val (.int rr), .val (.ref o), .val (.int (1 : Int32)), .unset] [])) _
    refine XS.iload X0.here hx rfl (hb hby at_67) rfl ?_
    show Steps p.tables e below (T0.setTop (mkF m 69 #[.val (.int p1), .val (.int p2), .val (.int p3), .val (.int p4), .val (.int nn), .val (.int rr), .val (.ref o), .val (.int (1 : Int32)), .unset] [(.int rr)])) _
    refine XS.iconst X0.here hx rfl (hb hby at_69) ?_
    show Steps p.tables e below (T0.setTop (mkF m 70 #[.val (.int p1), .val (.int p2), .val (.int p3), .val (.int p4), .val (.int nn), .val (.int rr), .val (.ref o), .val (.int (1 : Int32)), .unset] [(.int (1 : Int32)), (.int rr)])) _
    refine XS.icmpNo X0.here hx rfl (hb hby at_70) rfl (flt (q : ¬ (rr < (1 : Int32)))).1 ?_
    show Steps p.tables e below (T0.setTop (mkF m 73 #[.val (.int p1), .val (.int p2), .val (.int p3), .val (.int p4), .val (.int nn), .val (.int rr), .val (.ref o), .val (.int (1 : Int32)), .unset] [])) _
    refine XS.aload X0.here hx rfl (hb hby at_73) rfl rfl ?_
    show Steps p.tables e below (T0.setTop (mkF m 75 #[.val (.int p1), .val (.int p2), .val (.int p3), .val (.int p4), .val (.int nn), .val (.int rr), .val (.ref o), .val (.int (1 : Int32)), .unset] [(.ref o)])) _
    refine st1.trans ?_
    show Steps p.tables e below (T1.setTop (mkF m 78 #[.val (.int p1), .val (.int p2), .val (.int p3), .val (.int p4), .val (.int nn), .val (.int rr), .val (.ref o), .val (.int (1 : Int32)), .unset] [(.int z)])) _
    refine XS.pop X1.here hx rfl (hb hby at_78) rfl rfl ?_
    exact kt

set_option maxRecDepth 65536 in
set_option maxHeartbeats 40000000 in
theorem own_s5 {p : Program} {l : Launch} {e : Env} {s : State} {m : MethodId} {args : Array Value} {below : List Frame} {meth : Method} {c : Code} {T0 : State} {locs : List Loc} {Z : State} {a0 : Array Value} {h0 : Heap} {n0 : Nat} (p1 p2 p3 p4 nn rr : Int32) (o b : Addr) (k k' : Int32)
    (X0 : Stand p l e room_1 s m args below meth c T0 locs 2 18) (hx : p.tables.exec = Jvm.exec) (hZ : Z.Warmed39 s.vm) (hw : ∀ d ∈ tables_1, d.before a0 Z = true) (hby : c.code = code) (hml : c.maxLocals = 9) (hown : s.vm.findClass "com/example/rollcall/rollcall/IntListIsEmptyPinLaw" = some m.cls) (e0 : T0.heap = h0) (Z0 : n0 ≤ h0.size) (N0 : Fr n0 locs) (g_o : n0 ≤ o) (g_b : n0 ≤ b) (ne_ob : o ≠ b) (E_o : Exa Z h0 o "com/example/rollcall/rollcall/IntList") (F_items : Fld Z h0 o "com/example/rollcall/rollcall/IntList" "items" "[I" (.ref b)) (F_size : Fld Z h0 o "com/example/rollcall/rollcall/IntList" "size" "I" (.int k)) (I_b : own_Ints Z h0 b) (hk : ¬ (rr < (2 : Int32)) → 0 ≤ (k - (1 : Int32)).toInt ∧ (k - (1 : Int32)).toInt ≤ 10) (hk' : k' = if rr < (2 : Int32) then k else k - (1 : Int32)) :
    ∃ (T' : State) (h' : Heap) (locs' : List Loc), Stand p l e room_1 s m args below meth c T' locs' 2 18 ∧ T'.heap = h' ∧ Fr n0 locs' ∧ n0 ≤ h'.size ∧ Exa Z h' o "com/example/rollcall/rollcall/IntList" ∧ Fld Z h' o "com/example/rollcall/rollcall/IntList" "items" "[I" (.ref b) ∧ Fld Z h' o "com/example/rollcall/rollcall/IntList" "size" "I" (.int k') ∧ own_Ints Z h' b ∧ ∀ t, Steps p.tables e below (T'.setTop (mkF m 91 #[.val (.int p1), .val (.int p2), .val (.int p3), .val (.int p4), .val (.int nn), .val (.int rr), .val (.ref o), .val (.int (1 : Int32)), .unset] [])) t → Steps p.tables e below (T0.setTop (mkF m 79 #[.val (.int p1), .val (.int p2), .val (.int p3), .val (.int p4), .val (.int nn), .val (.int rr), .val (.ref o), .val (.int (1 : Int32)), .unset] [])) t := by
  by_cases q : rr < (2 : Int32)
  · rw [if_pos q] at hk'; subst hk'
    refine ⟨_, _, _, X0, e0, N0, Z0, E_o, F_items, F_size, I_b, fun t kt => ?_⟩
    show Steps p.tables e below (T0.setTop (mkF m 79 #[.val (.int p1), .val (.int p2), .val (.int p3), .val (.int p4), .val (.int nn), .val (.int rr), .val (.ref o), .val (.int (1 : Int32)), .unset] [])) _
    refine XS.iload X0.here hx rfl (hb hby at_79) rfl ?_
    show Steps p.tables e below (T0.setTop (mkF m 81 #[.val (.int p1), .val (.int p2), .val (.int p3), .val (.int p4), .val (.int nn), .val (.int rr), .val (.ref o), .val (.int (1 : Int32)), .unset] [(.int rr)])) _
    refine XS.iconst X0.here hx rfl (hb hby at_81) ?_
    show Steps p.tables e below (T0.setTop (mkF m 82 #[.val (.int p1), .val (.int p2), .val (.int p3), .val (.int p4), .val (.int nn), .val (.int rr), .val (.ref o), .val (.int (1 : Int32)), .unset] [(.int (2 : Int32)), (.int rr)])) _
    refine XS.icmpYes X0.here hx rfl (pc0 := 82) (pc' := 91) rfl (hb hby at_82) rfl (tlt (q : rr < (2 : Int32))).1 (by decide) (by decide) ?_
    exact kt
  · rw [if_neg q] at hk'; subst hk'
    have I_b0 := I_b
    obtain ⟨cl, Ar, hsz, hel⟩ := I_b
    obtain ⟨hk0, hk1⟩ := hk q
    obtain ⟨z, hz⟩ := hel (k - (1 : Int32)).toNatClampNeg (own_lt16 hk0 (by omega))
    obtain ⟨cq1, kq1, q1a, q1b, q1c⟩ := isOf hZ e0 E_o
    obtain ⟨_, _, ⟨T1, L1, k1, n1⟩, -, X1, ⟨Lc1, hQ1, l1, y1, z1⟩, st1⟩ := X0.virtualBack hx (y := (⟨"com/example/rollcall/rollcall/IntList", "removeLast", "()I"⟩ : MethodName)) (z := (⟨"com/example/rollcall/rollcall/IntList", "removeLast", "()I"⟩ : MethodName)) hown (mvT hZ (hw _ (List.mem_of_getElem? (i := 24) rfl))) (mvT hZ (hw _ (List.mem_of_getElem? (i := 25) rfl))) (notFace_of_selects (args := #[]) (mvT hZ (hw _ (List.mem_of_getElem? (i := 27) rfl)))) (mvT hZ (hw _ (List.mem_of_getElem? (i := 27) rfl))) (mvT hZ (hw _ (List.mem_of_getElem? (i := 26) rfl))) (by decide) (backOf (W := 0) (rm5 l Z a0 hw [] o b k cl z h0 n0 Z0 g_o g_b ne_ob E_o F_items F_size Ar hsz hz hk0 hk1) hZ (hw _ (List.mem_of_getElem? (i := 28) rfl)) (hw _ (List.mem_of_getElem? (i := 2) rfl)) (by decide) (by decide)) q1a q1c (g := (mkF m 87 #[.val (.int p1), .val (.int p2), .val (.int p3), .val (.int p4), .val (.int nn), .val (.int rr), .val (.ref o), .val (.int (1 : Int32)), .unset] [(.ref o)])) rfl (by rw [hml]; rfl) (Steps.refl _) (argsL := []) (rest := []) (lenOf pd_1 rfl) rfl (by show 2 * 0 + _ ≤ _; exact Nat.le_of_eq rfl) (hb hby at_87) (fun _ _ => ⟨rfl, e0, (by decide : 2 + 0 ≤ _), (by decide : 18 + 0 ≤ _)⟩)
    dsimp only [Pt.U, Pt.locs, Pt.cells, Pt.slots] at X1 l1 y1 z1 st1 hQ1
    subst l1 y1 z1
    obtain ⟨rfl, N1q, K1, Eo1, Fi1, Fs1⟩ := hQ1
    have N1 := Fr.app N0 N1q
    have E_o_h1 := (E_o.keep K1)
    have I_b_h1 := (I_b0.keep K1 (by simp only [List.mem_cons, List.not_mem_nil, or_false, not_or]; exact (Ne.symm ne_ob)))
    have Z1 := (Nat.le_trans Z0 K1.1)
    refine ⟨_, _, _, X1, rfl, N1, Z1, Eo1, Fi1, Fs1, I_b_h1, fun t kt => ?_⟩
    show Steps p.tables e below (T0.setTop (mkF m 79 #[.val (.int p1), .val (.int p2), .val (.int p3), .val (.int p4), .val (.int nn), .val (.int rr), .val (.ref o), .val (.int (1 : Int32)), .unset] [])) _
    refine XS.iload X0.here hx rfl (hb hby at_79) rfl ?_
    show Steps p.tables e below (T0.setTop (mkF m 81 #[.val (.int p1), .val (.int p2), .val (.int p3), .val (.int p4), .val (.int nn), .val (.int rr), .val (.ref o), .val (.int (1 : Int32)), .unset] [(.int rr)])) _
    refine XS.iconst X0.here hx rfl (hb hby at_81) ?_
    show Steps p.tables e below (T0.setTop (mkF m 82 #[.val (.int p1), .val (.int p2), .val (.int p3), .val (.int p4), .val (.int nn), .val (.int rr), .val (.ref o), .val (.int (1 : Int32)), .unset] [(.int (2 : Int32)), (.int rr)])) _
    refine XS.icmpNo X0.here hx rfl (hb hby at_82) rfl (flt (q : ¬ (rr < (2 : Int32)))).1 ?_
    show Steps p.tables e below (T0.setTop (mkF m 85 #[.val (.int p1), .val (.int p2), .val (.int p3), .val (.int p4), .val (.int nn), .val (.int rr), .val (.ref o), .val (.int (1 : Int32)), .unset] [])) _
    refine XS.aload X0.here hx rfl (hb hby at_85) rfl rfl ?_
    show Steps p.tables e below (T0.setTop (mkF m 87 #[.val (.int p1), .val (.int p2), .val (.int p3), .val (.int p4), .val (.int nn), .val (.int rr), .val (.ref o), .val (.int (1 : Int32)), .unset] [(.ref o)])) _
    refine st1.trans ?_
    show Steps p.tables e below (T1.setTop (mkF m 90 #[.val (.int p1), .val (.int p2), .val (.int p3), .val (.int p4), .val (.int nn), .val (.int rr), .val (.ref o), .val (.int (1 : Int32)), .unset] [(.int z)])) _
    refine XS.pop X1.here hx rfl (hb hby at_90) rfl rfl ?_
    exact kt

set_option maxRecDepth 65536 in
set_option maxHeartbeats 40000000 in
theorem own_s6 {p : Program} {l : Launch} {e : Env} {s : State} {m : MethodId} {args : Array Value} {below : List Frame} {meth : Method} {c : Code} {T0 : State} {locs : List Loc} {Z : State} {a0 : Array Value} {h0 : Heap} {n0 : Nat} (p1 p2 p3 p4 nn rr : Int32) (o b : Addr) (k k' : Int32)
    (X0 : Stand p l e room_1 s m args below meth c T0 locs 2 18) (hx : p.tables.exec = Jvm.exec) (hZ : Z.Warmed39 s.vm) (hw : ∀ d ∈ tables_1, d.before a0 Z = true) (hby : c.code = code) (hml : c.maxLocals = 9) (hown : s.vm.findClass "com/example/rollcall/rollcall/IntListIsEmptyPinLaw" = some m.cls) (e0 : T0.heap = h0) (Z0 : n0 ≤ h0.size) (N0 : Fr n0 locs) (g_o : n0 ≤ o) (g_b : n0 ≤ b) (ne_ob : o ≠ b) (E_o : Exa Z h0 o "com/example/rollcall/rollcall/IntList") (F_items : Fld Z h0 o "com/example/rollcall/rollcall/IntList" "items" "[I" (.ref b)) (F_size : Fld Z h0 o "com/example/rollcall/rollcall/IntList" "size" "I" (.int k)) (I_b : own_Ints Z h0 b) (hk : ¬ (rr < (3 : Int32)) → 0 ≤ (k - (1 : Int32)).toInt ∧ (k - (1 : Int32)).toInt ≤ 10) (hk' : k' = if rr < (3 : Int32) then k else k - (1 : Int32)) :
    ∃ (T' : State) (h' : Heap) (locs' : List Loc), Stand p l e room_1 s m args below meth c T' locs' 2 18 ∧ T'.heap = h' ∧ Fr n0 locs' ∧ n0 ≤ h'.size ∧ Exa Z h' o "com/example/rollcall/rollcall/IntList" ∧ Fld Z h' o "com/example/rollcall/rollcall/IntList" "items" "[I" (.ref b) ∧ Fld Z h' o "com/example/rollcall/rollcall/IntList" "size" "I" (.int k') ∧ own_Ints Z h' b ∧ ∀ t, Steps p.tables e below (T'.setTop (mkF m 103 #[.val (.int p1), .val (.int p2), .val (.int p3), .val (.int p4), .val (.int nn), .val (.int rr), .val (.ref o), .val (.int (1 : Int32)), .unset] [])) t → Steps p.tables e below (T0.setTop (mkF m 91 #[.val (.int p1), .val (.int p2), .val (.int p3), .val (.int p4), .val (.int nn), .val (.int rr), .val (.ref o), .val (.int (1 : Int32)), .unset] [])) t := by
  by_cases q : rr < (3 : Int32)
  · rw [if_pos q] at hk'; subst hk'
    refine ⟨_, _, _, X0, e0, N0, Z0, E_o, F_items, F_size, I_b, fun t kt => ?_⟩
    show Steps p.tables e below (T0.setTop (mkF m 91 #[.val (.int p1), .val (.int p2), .val (.int p3), .val (.int p4), .val (.int nn), .val (.int rr), .val (.ref o), .val (.int (1 : Int32)), .unset] [])) _
    refine XS.iload X0.here hx rfl (hb hby at_91) rfl ?_
    show Steps p.tables e below (T0.setTop (mkF m 93 #[.val (.int p1), .val (.int p2), .val (.int p3), .val (.int p4), .val (.int nn), .val (.int rr), .val (.ref o), .val (.int (1 : Int32)), .unset] [(.int rr)])) _
    refine XS.iconst X0.here hx rfl (hb hby at_93) ?_
    show Steps p.tables e below (T0.setTop (mkF m 94 #[.val (.int p1), .val (.int p2), .val (.int p3), .val (.int p4), .val (.int nn), .val (.int rr), .val (.ref o), .val (.int (1 : Int32)), .unset] [(.int (3 : Int32)), (.int rr)])) _
    refine XS.icmpYes X0.here hx rfl (pc0 := 94) (pc' := 103) rfl (hb hby at_94) rfl (tlt (q : rr < (3 : Int32))).1 (by decide) (by decide) ?_
    exact kt
  · rw [if_neg q] at hk'; subst hk'
    have I_b0 := I_b
    obtain ⟨cl, Ar, hsz, hel⟩ := I_b
    obtain ⟨hk0, hk1⟩ := hk q
    obtain ⟨z, hz⟩ := hel (k - (1 : Int32)).toNatClampNeg (own_lt16 hk0 (by omega))
    obtain ⟨cq1, kq1, q1a, q1b, q1c⟩ := isOf hZ e0 E_o
    obtain ⟨_, _, ⟨T1, L1, k1, n1⟩, -, X1, ⟨Lc1, hQ1, l1, y1, z1⟩, st1⟩ := X0.virtualBack hx (y := (⟨"com/example/rollcall/rollcall/IntList", "removeLast", "()I"⟩ : MethodName)) (z := (⟨"com/example/rollcall/rollcall/IntList", "removeLast", "()I"⟩ : MethodName)) hown (mvT hZ (hw _ (List.mem_of_getElem? (i := 24) rfl))) (mvT hZ (hw _ (List.mem_of_getElem? (i := 25) rfl))) (notFace_of_selects (args := #[]) (mvT hZ (hw _ (List.mem_of_getElem? (i := 27) rfl)))) (mvT hZ (hw _ (List.mem_of_getElem? (i := 27) rfl))) (mvT hZ (hw _ (List.mem_of_getElem? (i := 26) rfl))) (by decide) (backOf (W := 0) (rm5 l Z a0 hw [] o b k cl z h0 n0 Z0 g_o g_b ne_ob E_o F_items F_size Ar hsz hz hk0 hk1) hZ (hw _ (List.mem_of_getElem? (i := 28) rfl)) (hw _ (List.mem_of_getElem? (i := 2) rfl)) (by decide) (by decide)) q1a q1c (g := (mkF m 99 #[.val (.int p1), .val (.int p2), .val (.int p3), .val (.int p4), .val (.int nn), .val (.int rr), .val (.ref o), .val (.int (1 : Int32)), .unset] [(.ref o)])) rfl (by rw [hml]; rfl) (Steps.refl _) (argsL := []) (rest := []) (lenOf pd_1 rfl) rfl (by show 2 * 0 + _ ≤ _; exact Nat.le_of_eq rfl) (hb hby at_99) (fun _ _ => ⟨rfl, e0, (by decide : 2 + 0 ≤ _), (by decide : 18 + 0 ≤ _)⟩)
    dsimp only [Pt.U, Pt.locs, Pt.cells, Pt.slots] at X1 l1 y1 z1 st1 hQ1
    subst l1 y1 z1
    obtain ⟨rfl, N1q, K1, Eo1, Fi1, Fs1⟩ := hQ1
    have N1 := Fr.app N0 N1q
    have E_o_h1 := (E_o.keep K1)
    have I_b_h1 := (I_b0.keep K1 (by simp only [List.mem_cons, List.not_mem_nil, or_false, not_or]; exact (Ne.symm ne_ob)))
    have Z1 := (Nat.le_trans Z0 K1.1)
    refine ⟨_, _, _, X1, rfl, N1, Z1, Eo1, Fi1, Fs1, I_b_h1, fun t kt => ?_⟩
    show Steps p.tables e below (T0.setTop (mkF m 91 #[.val (.int p1), .val (.int p2), .val (.int p3), .val (.int p4), .val (.int nn), .val (.int rr), .val (.ref o), .val (.int (1 : Int32)), .unset] [])) _
    refine XS.iload X0.here hx rfl (hb hby at_91) rfl ?_
    show Steps p.tables e below (T0.setTop (mkF m 93 #[.val (.int p1), .val (.int p2), .val (.int p3), .val (.int p4), .val (.int nn), .val (.int rr), .val (.ref o), .val (.int (1 : Int32)), .unset] [(.int rr)])) _
    refine XS.iconst X0.here hx rfl (hb hby at_93) ?_
    show Steps p.tables e below (T0.setTop (mkF m 94 #[.val (.int p1), .val (.int p2), .val (.int p3), .val (.int p4), .val (.int nn), .val (.int rr), .val (.ref o), .val (.int (1 : Int32)), .unset] [(.int (3 : Int32)), (.int rr)])) _
    refine XS.icmpNo X0.here hx rfl (hb hby at_94) rfl (flt (q : ¬ (rr < (3 : Int32)))).1 ?_
    show Steps p.tables e below (T0.setTop (mkF m 97 #[.val (.int p1), .val (.int p2), .val (.int p3), .val (.int p4), .val (.int nn), .val (.int rr), .val (.ref o), .val (.int (1 : Int32)), .unset] [])) _
    refine XS.aload X0.here hx rfl (hb hby at_97) rfl rfl ?_
    show Steps p.tables e below (T0.setTop (mkF m 99 #[.val (.int p1), .val (.int p2), .val (.int p3), .val (.int p4), .val (.int nn), .val (.int rr), .val (.ref o), .val (.int (1 : Int32)), .unset] [(.ref o)])) _
    refine st1.trans ?_
    show Steps p.tables e below (T1.setTop (mkF m 102 #[.val (.int p1), .val (.int p2), .val (.int p3), .val (.int p4), .val (.int nn), .val (.int rr), .val (.ref o), .val (.int (1 : Int32)), .unset] [(.int z)])) _
    refine XS.pop X1.here hx rfl (hb hby at_102) rfl rfl ?_
    exact kt

theorem pd_2 : parseMethodDescriptor "()V" = some ⟨[], none⟩ := by decide +kernel
theorem pd_3 : parseMethodDescriptor "()Z" = some ⟨[], some .boolean⟩ := by decide +kernel
theorem pn_2 : plainName "com/example/rollcall/rollcall/IntListIsEmptyPinLaw" = true := by first | (simp [plainName, overriddenIn]; done) | decide +kernel
theorem ef_0 (m : MethodId) (x0 : Int32) (x1 : Int32) (x2 : Int32) (x3 : Int32) : entryFrame m #[(.int x0), (.int x1), (.int x2), (.int x3)] maxLocals = mkF m 0 #[.val (.int x0), .val (.int x1), .val (.int x2), .val (.int x3), .unset, .unset, .unset, .unset, .unset] [] := by first | (simp [entryFrame, mkF, argsToLocals, Value.category, maxLocals]; done) | rfl
def Q0 (Z : State) (p1 : Int32) (p2 : Int32) (p3 : Int32) (p4 : Int32)  (h0 : Heap) (n0 : Nat) (v : Option Value) (h : Heap) (L : List Loc) : Prop := v = some (.int (1 : Int32)) ∧ Fr n0 L
set_option maxRecDepth 65536 in
set_option maxHeartbeats 40000000 in
theorem rm0 (l : Launch) (Z : State) (a0 : Array Value) (hw : ∀ d ∈ tables_1, d.before a0 Z = true) (ws : List Jvm.Cond) (p1 : Int32) (p2 : Int32) (p3 : Int32) (p4 : Int32)  (h0 : Heap) (n0 : Nat) (Z0 : n0 ≤ h0.size)  :
    MetFree l x (head1 (Jvm.Cond.code x code maxLocals ret :: ws) room_1) (fun a U => a = #[(.int p1), (.int p2), (.int p3), (.int p4)] ∧ Z.Warmed39 U.vm ∧ U.heap = h0) (fun _ _ _ _ _ => True) (fun _ U o U' => ∃ v L, o = .returned v ∧ Q0 Z p1 p2 p3 p4  h0 n0 v U'.heap L ∧ FrameEnd U o U' L room_1.cells room_1.slots) := by
  refine MetFree.of_bodySF (plainFor_of_name pn_2) hisR ?_
  intro p e s m args below meth c s₁ Bd hml0 hP hK
  obtain ⟨rfl, hZ, hh⟩ := hP
  have hx := Bd.exec
  have hby := Bd.bytes
  have hml : c.maxLocals = 9 := hml0
  have hown : s.vm.findClass "com/example/rollcall/rollcall/IntListIsEmptyPinLaw" = some m.cls := findClass_of_methodNamed Bd.named
  have hnm := (name_of_methodNamed Bd.named Bd.method).1
  have X0 : Stand p l e room_1 s m #[(.int p1), (.int p2), (.int p3), (.int p4)] below meth c s₁ [] 0 0 := Stand.of_body Bd
  have e0 : s₁.heap = h0 := by rw [← hh, Bd.state]; rfl
  have N0 := Fr.nil n0
  have pre0 : ∀ t, Steps p.tables e below (s₁.setTop (mkF m 0 #[.val (.int p1), .val (.int p2), .val (.int p3), .val (.int p4), .unset, .unset, .unset, .unset, .unset] [])) t → Steps p.tables e below (s₁.setTop (entryFrame m #[(.int p1), (.int p2), (.int p3), (.int p4)] maxLocals)) t := fun t k => castTop (ef_0 m p1 p2 p3 p4) k
  obtain ⟨nn, hnn⟩ : ∃ z : Int32, z = (p1 &&& (3 : Int32)) := ⟨_, rfl⟩
  have stg_nn : ∀ t, Steps p.tables e below (s₁.setTop (mkF m 5 #[.val (.int p1), .val (.int p2), .val (.int p3), .val (.int p4), .val (.int nn), .unset, .unset, .unset, .unset] [])) t → Steps p.tables e below (s₁.setTop (mkF m 5 #[.val (.int p1), .val (.int p2), .val (.int p3), .val (.int p4), .val (.int (p1 &&& (3 : Int32))), .unset, .unset, .unset, .unset] [])) t := by subst hnn; exact fun _ k => k
  have gn := own_mask3 hnn
  have hnz12 : (nn + (1 : Int32)) ≠ (0 : Int32) := own_nz gn
  obtain ⟨rr, hrr⟩ : ∃ z : Int32, z = ((p2 &&& (3 : Int32)) % (nn + (1 : Int32))) := ⟨_, rfl⟩
  have stg_rr : ∀ t, Steps p.tables e below (s₁.setTop (mkF m 15 #[.val (.int p1), .val (.int p2), .val (.int p3), .val (.int p4), .val (.int nn), .val (.int rr), .unset, .unset, .unset] [])) t → Steps p.tables e below (s₁.setTop (mkF m 15 #[.val (.int p1), .val (.int p2), .val (.int p3), .val (.int p4), .val (.int nn), .val (.int ((p2 &&& (3 : Int32)) % (nn + (1 : Int32)))), .unset, .unset, .unset] [])) t := by subst hrr; exact fun _ k => k
  have gr := own_rem gn hrr
  obtain ⟨k1, k2, k3, k4, k5, k6, e1', e2', e3', e4', e5', e6', c0, c1, c2, c3, c4, c5, c6⟩ := own_plain gn gr
  obtain ⟨T1, h1, X1, e1, E1, A1, D1, -, st1⟩ := newO X0 hx hZ hown (hw _ (List.mem_of_getElem? (i := 0) rfl)) (hw _ (List.mem_of_getElem? (i := 1) rfl)) (hw _ (List.mem_of_getElem? (i := 2) rfl)) e0 (g := (mkF m 15 #[.val (.int p1), .val (.int p2), .val (.int p3), .val (.int p4), .val (.int nn), .val (.int rr), .unset, .unset, .unset] [])) rfl (hb hby at_15) (by decide) (by decide)
  obtain ⟨o, g1⟩ : ∃ z, z = h0.size := ⟨_, rfl⟩
  rw [← g1] at A1 D1 st1
  have g_o : n0 ≤ o := Nat.le_trans Z0 (Nat.le_of_eq g1.symm)
  have Z1 := (Nat.le_trans Z0 E1.1)
  have F_items_o : Fld Z h1 o "com/example/rollcall/rollcall/IntList" "items" "[I" .null := D1 (Or.inl (hw _ (List.mem_of_getElem? (i := 11) rfl))) (ty := (.array .int)) (by decide)
  have F_size_o : Fld Z h1 o "com/example/rollcall/rollcall/IntList" "size" "I" (.int (0 : Int32)) := D1 (Or.inl (hw _ (List.mem_of_getElem? (i := 18) rfl))) (ty := .int) (by decide)
  obtain ⟨_, _, ⟨T2, L2, k2, n2⟩, -, X2, ⟨Lc2, hQ2, l2, y2, z2⟩, st2⟩ := X1.specialBack hx (y := (⟨"com/example/rollcall/rollcall/IntList", "<init>", "()V"⟩ : MethodName)) rfl hown (mvT hZ (hw _ (List.mem_of_getElem? (i := 3) rfl))) (mvT hZ (hw _ (List.mem_of_getElem? (i := 4) rfl))) (mvT hZ (hw _ (List.mem_of_getElem? (i := 5) rfl))) (by decide) (backOf (W := 1) (rm1 l Z a0 hw [] o .null (.int (0 : Int32)) h1 n0 Z1 g_o A1 F_items_o F_size_o) hZ (hw _ (List.mem_of_getElem? (i := 5) rfl)) (hw _ (List.mem_of_getElem? (i := 2) rfl)) (by decide) (by decide)) (g := (mkF m 19 #[.val (.int p1), .val (.int p2), .val (.int p3), .val (.int p4), .val (.int nn), .val (.int rr), .unset, .unset, .unset] [(.ref o), (.ref o)])) rfl (by rw [hml]; rfl) (Steps.refl _) (a := o) (argsL := []) (rest := [(.ref o)]) (lenOf pd_2 rfl) rfl (by show 2 * 0 + _ ≤ _; exact Nat.le_of_eq rfl) (hb hby at_19) (fun _ _ => ⟨rfl, e1, (by decide : 1 + 1 ≤ _), (by decide : 2 + 16 ≤ _)⟩)
  dsimp only [Pt.U, Pt.locs, Pt.cells, Pt.slots] at X2 l2 y2 z2 st2 hQ2
  subst l2 y2 z2
  obtain ⟨rfl, N2q, K2, Eo2, Fs2, b, g_b, sz_b, Fi2, I2⟩ := hQ2
  have N2 := Fr.app N0 N2q
  have A1_h2 := (A1.keep K2)
  have Z2 := (Nat.le_trans Z1 K2.1)
  have ne_ob : o ≠ b := Nat.ne_of_lt (Nat.lt_of_lt_of_le A1.lt sz_b)
  obtain ⟨cq3, kq3, q3a, q3b, q3c⟩ := isOf hZ rfl Eo2
  obtain ⟨_, _, ⟨T3, L3, k3, n3⟩, -, X3, ⟨Lc3, hQ3, l3, y3, z3⟩, st3⟩ := X2.virtualBack hx (y := (⟨"com/example/rollcall/rollcall/IntList", "isEmpty", "()Z"⟩ : MethodName)) (z := (⟨"com/example/rollcall/rollcall/IntList", "isEmpty", "()Z"⟩ : MethodName)) hown (mvT hZ (hw _ (List.mem_of_getElem? (i := 12) rfl))) (mvT hZ (hw _ (List.mem_of_getElem? (i := 13) rfl))) (notFace_of_selects (args := #[]) (mvT hZ (hw _ (List.mem_of_getElem? (i := 15) rfl)))) (mvT hZ (hw _ (List.mem_of_getElem? (i := 15) rfl))) (mvT hZ (hw _ (List.mem_of_getElem? (i := 14) rfl))) (by decide) (backOf (W := 0) (rm3 l Z a0 hw [] o (0 : Int32) (1 : Int32) T2.heap n0 Z2 Fs2 rfl) hZ (hw _ (List.mem_of_getElem? (i := 16) rfl)) (hw _ (List.mem_of_getElem? (i := 2) rfl)) (by decide) (by decide)) q3a q3c (g := (mkF m 26 #[.val (.int p1), .val (.int p2), .val (.int p3), .val (.int p4), .val (.int nn), .val (.int rr), .val (.ref o), .unset, .unset] [(.ref o)])) rfl (by rw [hml]; rfl) (Steps.refl _) (argsL := []) (rest := []) (lenOf pd_3 rfl) rfl (by show 2 * 0 + _ ≤ _; exact Nat.le_of_eq rfl) (hb hby at_26) (fun _ _ => ⟨rfl, rfl, (by decide : 2 + 0 ≤ _), (by decide : 18 + 0 ≤ _)⟩)
  dsimp only [Pt.U, Pt.locs, Pt.cells, Pt.slots] at X3 l3 y3 z3 st3 hQ3
  subst l3 y3 z3
  obtain ⟨rfl, N3q, e3⟩ := hQ3
  have N3 := Fr.app N2 N3q
  obtain ⟨T4, h4, L4, X4, e4, N4, Z4, Eo4, Fi4, Fs4, I4, st4⟩ := own_s1 p1 p2 p3 p4 nn rr o b (0 : Int32) k1 X3 hx hZ hw hby hml hown e3 Z2 N3 g_o g_b ne_ob Eo2 Fi2 Fs2 I2 c0.1 c0.2 e1'
  obtain ⟨T5, h5, L5, X5, e5, N5, Z5, Eo5, Fi5, Fs5, I5, st5⟩ := own_s2 p1 p2 p3 p4 nn rr o b k1 k2 X4 hx hZ hw hby hml hown e4 Z4 N4 g_o g_b ne_ob Eo4 Fi4 Fs4 I4 c1.1 c1.2 e2'
  obtain ⟨T6, h6, L6, X6, e6, N6, Z6, Eo6, Fi6, Fs6, I6, st6⟩ := own_s3 p1 p2 p3 p4 nn rr o b k2 k3 X5 hx hZ hw hby hml hown e5 Z5 N5 g_o g_b ne_ob Eo5 Fi5 Fs5 I5 c2.1 c2.2 e3'
  obtain ⟨T7, h7, L7, X7, e7, N7, Z7, Eo7, Fi7, Fs7, I7, st7⟩ := own_s4 p1 p2 p3 p4 nn rr o b k3 k4 X6 hx hZ hw hby hml hown e6 Z6 N6 g_o g_b ne_ob Eo6 Fi6 Fs6 I6 c3 e4'
  obtain ⟨T8, h8, L8, X8, e8, N8, Z8, Eo8, Fi8, Fs8, I8, st8⟩ := own_s5 p1 p2 p3 p4 nn rr o b k4 k5 X7 hx hZ hw hby hml hown e7 Z7 N7 g_o g_b ne_ob Eo7 Fi7 Fs7 I7 c4 e5'
  obtain ⟨T9, h9, L9, X9, e9, N9, Z9, Eo9, Fi9, Fs9, I9, st9⟩ := own_s6 p1 p2 p3 p4 nn rr o b k5 k6 X8 hx hZ hw hby hml hown e8 Z8 N8 g_o g_b ne_ob Eo8 Fi8 Fs8 I8 c5 e6'
  obtain ⟨b10, hb10⟩ : ∃ z : Int32, z = (if (nn - rr) = (0 : Int32) then (1 : Int32) else (0 : Int32)) := ⟨_, rfl⟩
  have st10 : ∀ t, Steps p.tables e below (T9.setTop (mkF m 118 #[.val (.int p1), .val (.int p2), .val (.int p3), .val (.int p4), .val (.int nn), .val (.int rr), .val (.ref o), .val (.int (1 : Int32)), .val (.int b10)] [])) t → Steps p.tables e below (T9.setTop (mkF m 103 #[.val (.int p1), .val (.int p2), .val (.int p3), .val (.int p4), .val (.int nn), .val (.int rr), .val (.ref o), .val (.int (1 : Int32)), .unset] [])) t := by
    intro t k
    by_cases hcs1 : (nn - rr) = (0 : Int32)
    · skip
      rw [if_pos hcs1] at hb10
      rw [hb10] at k
      show Steps p.tables e below (T9.setTop (mkF m 103 #[.val (.int p1), .val (.int p2), .val (.int p3), .val (.int p4), .val (.int nn), .val (.int rr), .val (.ref o), .val (.int (1 : Int32)), .unset] [])) _
      refine XS.iload X9.here hx rfl (hb hby at_103) rfl ?_
      show Steps p.tables e below (T9.setTop (mkF m 105 #[.val (.int p1), .val (.int p2), .val (.int p3), .val (.int p4), .val (.int nn), .val (.int rr), .val (.ref o), .val (.int (1 : Int32)), .unset] [(.int nn)])) _
      refine XS.iload X9.here hx rfl (hb hby at_105) rfl ?_
      show Steps p.tables e below (T9.setTop (mkF m 107 #[.val (.int p1), .val (.int p2), .val (.int p3), .val (.int p4), .val (.int nn), .val (.int rr), .val (.ref o), .val (.int (1 : Int32)), .unset] [(.int rr), (.int nn)])) _
      refine XS.isub X9.here hx rfl (hb hby at_107) rfl ?_
      show Steps p.tables e below (T9.setTop (mkF m 108 #[.val (.int p1), .val (.int p2), .val (.int p3), .val (.int p4), .val (.int nn), .val (.int rr), .val (.ref o), .val (.int (1 : Int32)), .unset] [(.int (nn - rr))])) _
      refine XS.ifNo X9.here hx rfl (hb hby at_108) rfl ((if0 _ _).trans (teq hcs1).2) ?_
      show Steps p.tables e below (T9.setTop (mkF m 111 #[.val (.int p1), .val (.int p2), .val (.int p3), .val (.int p4), .val (.int nn), .val (.int rr), .val (.ref o), .val (.int (1 : Int32)), .unset] [])) _
      refine XS.iconst X9.here hx rfl (hb hby at_111) ?_
      show Steps p.tables e below (T9.setTop (mkF m 112 #[.val (.int p1), .val (.int p2), .val (.int p3), .val (.int p4), .val (.int nn), .val (.int rr), .val (.ref o), .val (.int (1 : Int32)), .unset] [(.int (1 : Int32))])) _
      refine XS.goto X9.here hx rfl (pc0 := 112) (pc' := 116) rfl (hb hby at_112) (by decide) (by decide) ?_
      show Steps p.tables e below (T9.setTop (mkF m 116 #[.val (.int p1), .val (.int p2), .val (.int p3), .val (.int p4), .val (.int nn), .val (.int rr), .val (.ref o), .val (.int (1 : Int32)), .unset] [(.int (1 : Int32))])) _
      refine XS.istore X9.here hx rfl (hb hby at_116) rfl (l' := #[.val (.int p1), .val (.int p2), .val (.int p3), .val (.int p4), .val (.int nn), .val (.int rr), .val (.ref o), .val (.int (1 : Int32)), .val (.int (1 : Int32))]) rfl ?_
      exact k
    · skip
      rw [if_neg hcs1] at hb10
      rw [hb10] at k
      show Steps p.tables e below (T9.setTop (mkF m 103 #[.val (.int p1), .val (.int p2), .val (.int p3), .val (.int p4), .val (.int nn), .val (.int rr), .val (.ref o), .val (.int (1 : Int32)), .unset] [])) _
      refine XS.iload X9.here hx rfl (hb hby at_103) rfl ?_
      show Steps p.tables e below (T9.setTop (mkF m 105 #[.val (.int p1), .val (.int p2), .val (.int p3), .val (.int p4), .val (.int nn), .val (.int rr), .val (.ref o), .val (.int (1 : Int32)), .unset] [(.int nn)])) _
      refine XS.iload X9.here hx rfl (hb hby at_105) rfl ?_
      show Steps p.tables e below (T9.setTop (mkF m 107 #[.val (.int p1), .val (.int p2), .val (.int p3), .val (.int p4), .val (.int nn), .val (.int rr), .val (.ref o), .val (.int (1 : Int32)), .unset] [(.int rr), (.int nn)])) _
      refine XS.isub X9.here hx rfl (hb hby at_107) rfl ?_
      show Steps p.tables e below (T9.setTop (mkF m 108 #[.val (.int p1), .val (.int p2), .val (.int p3), .val (.int p4), .val (.int nn), .val (.int rr), .val (.ref o), .val (.int (1 : Int32)), .unset] [(.int (nn - rr))])) _
      refine XS.ifYes X9.here hx rfl (pc0 := 108) (pc' := 115) rfl (hb hby at_108) rfl ((if0 _ _).trans (feq hcs1).2) (by decide) (by decide) ?_
      show Steps p.tables e below (T9.setTop (mkF m 115 #[.val (.int p1), .val (.int p2), .val (.int p3), .val (.int p4), .val (.int nn), .val (.int rr), .val (.ref o), .val (.int (1 : Int32)), .unset] [])) _
      refine XS.iconst X9.here hx rfl (hb hby at_115) ?_
      show Steps p.tables e below (T9.setTop (mkF m 116 #[.val (.int p1), .val (.int p2), .val (.int p3), .val (.int p4), .val (.int nn), .val (.int rr), .val (.ref o), .val (.int (1 : Int32)), .unset] [(.int (0 : Int32))])) _
      refine XS.istore X9.here hx rfl (hb hby at_116) rfl (l' := #[.val (.int p1), .val (.int p2), .val (.int p3), .val (.int p4), .val (.int nn), .val (.int rr), .val (.ref o), .val (.int (1 : Int32)), .val (.int (0 : Int32))]) rfl ?_
      exact k
  obtain ⟨cq11, kq11, q11a, q11b, q11c⟩ := isOf hZ e9 Eo9
  obtain ⟨_, _, ⟨T11, L11, k11, n11⟩, -, X11, ⟨Lc11, hQ11, l11, y11, z11⟩, st11⟩ := X9.virtualBack hx (y := (⟨"com/example/rollcall/rollcall/IntList", "isEmpty", "()Z"⟩ : MethodName)) (z := (⟨"com/example/rollcall/rollcall/IntList", "isEmpty", "()Z"⟩ : MethodName)) hown (mvT hZ (hw _ (List.mem_of_getElem? (i := 12) rfl))) (mvT hZ (hw _ (List.mem_of_getElem? (i := 13) rfl))) (notFace_of_selects (args := #[]) (mvT hZ (hw _ (List.mem_of_getElem? (i := 15) rfl)))) (mvT hZ (hw _ (List.mem_of_getElem? (i := 15) rfl))) (mvT hZ (hw _ (List.mem_of_getElem? (i := 14) rfl))) (by decide) (backOf (W := 0) (rm3 l Z a0 hw [] o k6 b10 h9 n0 Z9 Fs9 (hb10.trans c6)) hZ (hw _ (List.mem_of_getElem? (i := 16) rfl)) (hw _ (List.mem_of_getElem? (i := 2) rfl)) (by decide) (by decide)) q11a q11c (g := (mkF m 125 #[.val (.int p1), .val (.int p2), .val (.int p3), .val (.int p4), .val (.int nn), .val (.int rr), .val (.ref o), .val (.int (1 : Int32)), .val (.int b10)] [(.ref o)])) rfl (by rw [hml]; rfl) (Steps.refl _) (argsL := []) (rest := []) (lenOf pd_3 rfl) rfl (by show 2 * 0 + _ ≤ _; exact Nat.le_of_eq rfl) (hb hby at_125) (fun _ _ => ⟨rfl, e9, (by decide : 2 + 0 ≤ _), (by decide : 18 + 0 ≤ _)⟩)
  dsimp only [Pt.U, Pt.locs, Pt.cells, Pt.slots] at X11 l11 y11 z11 st11 hQ11
  subst l11 y11 z11
  obtain ⟨rfl, N11q, e11⟩ := hQ11
  have N11 := Fr.app N9 N11q
  obtain ⟨fs, hr, hrun, hended, hW, hsame⟩ := X11.leave (v := some (.int (1 : Int32))) (fun h => by rw [Bd.returns] at h; cases h)
  refine ⟨_, _, pre0 _ ?_, hrun, hended, _, _, rfl, ?_, ⟨_, rfl⟩, hW, hsame.mono (by decide) (by decide)⟩
  · show Steps p.tables e below (s₁.setTop (mkF m 0 #[.val (.int p1), .val (.int p2), .val (.int p3), .val (.int p4), .unset, .unset, .unset, .unset, .unset] [])) _
    refine XS.iloadN X0.here hx rfl (hb hby at_0) rfl ?_
    show Steps p.tables e below (s₁.setTop (mkF m 1 #[.val (.int p1), .val (.int p2), .val (.int p3), .val (.int p4), .unset, .unset, .unset, .unset, .unset] [(.int p1)])) _
    refine XS.iconst X0.here hx rfl (hb hby at_1) ?_
    show Steps p.tables e below (s₁.setTop (mkF m 2 #[.val (.int p1), .val (.int p2), .val (.int p3), .val (.int p4), .unset, .unset, .unset, .unset, .unset] [(.int (3 : Int32)), (.int p1)])) _
    refine XS.iand X0.here hx rfl (hb hby at_2) rfl ?_
    show Steps p.tables e below (s₁.setTop (mkF m 3 #[.val (.int p1), .val (.int p2), .val (.int p3), .val (.int p4), .unset, .unset, .unset, .unset, .unset] [(.int (p1 &&& (3 : Int32)))])) _
    refine XS.istore X0.here hx rfl (hb hby at_3) rfl (l' := #[.val (.int p1), .val (.int p2), .val (.int p3), .val (.int p4), .val (.int (p1 &&& (3 : Int32))), .unset, .unset, .unset, .unset]) rfl ?_
    show Steps p.tables e below (s₁.setTop (mkF m 5 #[.val (.int p1), .val (.int p2), .val (.int p3), .val (.int p4), .val (.int (p1 &&& (3 : Int32))), .unset, .unset, .unset, .unset] [])) _
    refine stg_nn _ ?_
    show Steps p.tables e below (s₁.setTop (mkF m 5 #[.val (.int p1), .val (.int p2), .val (.int p3), .val (.int p4), .val (.int nn), .unset, .unset, .unset, .unset] [])) _
    refine XS.iloadN X0.here hx rfl (hb hby at_5) rfl ?_
    show Steps p.tables e below (s₁.setTop (mkF m 6 #[.val (.int p1), .val (.int p2), .val (.int p3), .val (.int p4), .val (.int nn), .unset, .unset, .unset, .unset] [(.int p2)])) _
    refine XS.iconst X0.here hx rfl (hb hby at_6) ?_
    show Steps p.tables e below (s₁.setTop (mkF m 7 #[.val (.int p1), .val (.int p2), .val (.int p3), .val (.int p4), .val (.int nn), .unset, .unset, .unset, .unset] [(.int (3 : Int32)), (.int p2)])) _
    refine XS.iand X0.here hx rfl (hb hby at_7) rfl ?_
    show Steps p.tables e below (s₁.setTop (mkF m 8 #[.val (.int p1), .val (.int p2), .val (.int p3), .val (.int p4), .val (.int nn), .unset, .unset, .unset, .unset] [(.int (p2 &&& (3 : Int32)))])) _
    refine XS.iload X0.here hx rfl (hb hby at_8) rfl ?_
    show Steps p.tables e below (s₁.setTop (mkF m 10 #[.val (.int p1), .val (.int p2), .val (.int p3), .val (.int p4), .val (.int nn), .unset, .unset, .unset, .unset] [(.int nn), (.int (p2 &&& (3 : Int32)))])) _
    refine XS.iconst X0.here hx rfl (hb hby at_10) ?_
    show Steps p.tables e below (s₁.setTop (mkF m 11 #[.val (.int p1), .val (.int p2), .val (.int p3), .val (.int p4), .val (.int nn), .unset, .unset, .unset, .unset] [(.int (1 : Int32)), (.int nn), (.int (p2 &&& (3 : Int32)))])) _
    refine XS.iadd X0.here hx rfl (hb hby at_11) rfl ?_
    show Steps p.tables e below (s₁.setTop (mkF m 12 #[.val (.int p1), .val (.int p2), .val (.int p3), .val (.int p4), .val (.int nn), .unset, .unset, .unset, .unset] [(.int (nn + (1 : Int32))), (.int (p2 &&& (3 : Int32)))])) _
    refine iremM X0 hx rfl (hb hby at_12) rfl hnz12 ?_
    show Steps p.tables e below (s₁.setTop (mkF m 13 #[.val (.int p1), .val (.int p2), .val (.int p3), .val (.int p4), .val (.int nn), .unset, .unset, .unset, .unset] [(.int ((p2 &&& (3 : Int32)) % (nn + (1 : Int32))))])) _
    refine XS.istore X0.here hx rfl (hb hby at_13) rfl (l' := #[.val (.int p1), .val (.int p2), .val (.int p3), .val (.int p4), .val (.int nn), .val (.int ((p2 &&& (3 : Int32)) % (nn + (1 : Int32)))), .unset, .unset, .unset]) rfl ?_
    show Steps p.tables e below (s₁.setTop (mkF m 15 #[.val (.int p1), .val (.int p2), .val (.int p3), .val (.int p4), .val (.int nn), .val (.int ((p2 &&& (3 : Int32)) % (nn + (1 : Int32)))), .unset, .unset, .unset] [])) _
    refine stg_rr _ ?_
    show Steps p.tables e below (s₁.setTop (mkF m 15 #[.val (.int p1), .val (.int p2), .val (.int p3), .val (.int p4), .val (.int nn), .val (.int rr), .unset, .unset, .unset] [])) _
    refine st1 _ ?_
    show Steps p.tables e below (T1.setTop (mkF m 18 #[.val (.int p1), .val (.int p2), .val (.int p3), .val (.int p4), .val (.int nn), .val (.int rr), .unset, .unset, .unset] [(.ref o)])) _
    refine XS.dup X1.here hx rfl (hb hby at_18) rfl rfl ?_
    show Steps p.tables e below (T1.setTop (mkF m 19 #[.val (.int p1), .val (.int p2), .val (.int p3), .val (.int p4), .val (.int nn), .val (.int rr), .unset, .unset, .unset] [(.ref o), (.ref o)])) _
    refine st2.trans ?_
    show Steps p.tables e below (T2.setTop (mkF m 22 #[.val (.int p1), .val (.int p2), .val (.int p3), .val (.int p4), .val (.int nn), .val (.int rr), .unset, .unset, .unset] [(.ref o)])) _
    refine XS.astore X2.here hx rfl (hb hby at_22) rfl rfl (l' := #[.val (.int p1), .val (.int p2), .val (.int p3), .val (.int p4), .val (.int nn), .val (.int rr), .val (.ref o), .unset, .unset]) rfl ?_
    show Steps p.tables e below (T2.setTop (mkF m 24 #[.val (.int p1), .val (.int p2), .val (.int p3), .val (.int p4), .val (.int nn), .val (.int rr), .val (.ref o), .unset, .unset] [])) _
    refine XS.aload X2.here hx rfl (hb hby at_24) rfl rfl ?_
    show Steps p.tables e below (T2.setTop (mkF m 26 #[.val (.int p1), .val (.int p2), .val (.int p3), .val (.int p4), .val (.int nn), .val (.int rr), .val (.ref o), .unset, .unset] [(.ref o)])) _
    refine st3.trans ?_
    show Steps p.tables e below (T3.setTop (mkF m 29 #[.val (.int p1), .val (.int p2), .val (.int p3), .val (.int p4), .val (.int nn), .val (.int rr), .val (.ref o), .unset, .unset] [(.int (1 : Int32))])) _
    refine XS.istore X3.here hx rfl (hb hby at_29) rfl (l' := #[.val (.int p1), .val (.int p2), .val (.int p3), .val (.int p4), .val (.int nn), .val (.int rr), .val (.ref o), .val (.int (1 : Int32)), .unset]) rfl ?_
    show Steps p.tables e below (T3.setTop (mkF m 31 #[.val (.int p1), .val (.int p2), .val (.int p3), .val (.int p4), .val (.int nn), .val (.int rr), .val (.ref o), .val (.int (1 : Int32)), .unset] [])) _
    refine st4 _ ?_
    show Steps p.tables e below (T4.setTop (mkF m 43 #[.val (.int p1), .val (.int p2), .val (.int p3), .val (.int p4), .val (.int nn), .val (.int rr), .val (.ref o), .val (.int (1 : Int32)), .unset] [])) _
    refine st5 _ ?_
    show Steps p.tables e below (T5.setTop (mkF m 55 #[.val (.int p1), .val (.int p2), .val (.int p3), .val (.int p4), .val (.int nn), .val (.int rr), .val (.ref o), .val (.int (1 : Int32)), .unset] [])) _
    refine st6 _ ?_
    show Steps p.tables e below (T6.setTop (mkF m 67 #[.val (.int p1), .val (.int p2), .val (.int p3), .val (.int p4), .val (.int nn), .val (.int rr), .val (.ref o), .val (.int (1 : Int32)), .unset] [])) _
    refine st7 _ ?_
    show Steps p.tables e below (T7.setTop (mkF m 79 #[.val (.int p1), .val (.int p2), .val (.int p3), .val (.int p4), .val (.int nn), .val (.int rr), .val (.ref o), .val (.int (1 : Int32)), .unset] [])) _
    refine st8 _ ?_
    show Steps p.tables e below (T8.setTop (mkF m 91 #[.val (.int p1), .val (.int p2), .val (.int p3), .val (.int p4), .val (.int nn), .val (.int rr), .val (.ref o), .val (.int (1 : Int32)), .unset] [])) _
    refine st9 _ ?_
    show Steps p.tables e below (T9.setTop (mkF m 103 #[.val (.int p1), .val (.int p2), .val (.int p3), .val (.int p4), .val (.int nn), .val (.int rr), .val (.ref o), .val (.int (1 : Int32)), .unset] [])) _
    refine st10 _ ?_
    show Steps p.tables e below (T9.setTop (mkF m 118 #[.val (.int p1), .val (.int p2), .val (.int p3), .val (.int p4), .val (.int nn), .val (.int rr), .val (.ref o), .val (.int (1 : Int32)), .val (.int b10)] [])) _
    refine XS.iload X9.here hx rfl (hb hby at_118) rfl ?_
    show Steps p.tables e below (T9.setTop (mkF m 120 #[.val (.int p1), .val (.int p2), .val (.int p3), .val (.int p4), .val (.int nn), .val (.int rr), .val (.ref o), .val (.int (1 : Int32)), .val (.int b10)] [(.int (1 : Int32))])) _
    refine XS.ifNo X9.here hx rfl (hb hby at_120) rfl ((if0 _ _).trans (feq (by decide : ¬ ((1 : Int32) = (0 : Int32)))).1) ?_
    show Steps p.tables e below (T9.setTop (mkF m 123 #[.val (.int p1), .val (.int p2), .val (.int p3), .val (.int p4), .val (.int nn), .val (.int rr), .val (.ref o), .val (.int (1 : Int32)), .val (.int b10)] [])) _
    refine XS.aload X9.here hx rfl (hb hby at_123) rfl rfl ?_
    show Steps p.tables e below (T9.setTop (mkF m 125 #[.val (.int p1), .val (.int p2), .val (.int p3), .val (.int p4), .val (.int nn), .val (.int rr), .val (.ref o), .val (.int (1 : Int32)), .val (.int b10)] [(.ref o)])) _
    refine st11.trans ?_
    show Steps p.tables e below (T11.setTop (mkF m 128 #[.val (.int p1), .val (.int p2), .val (.int p3), .val (.int p4), .val (.int nn), .val (.int rr), .val (.ref o), .val (.int (1 : Int32)), .val (.int b10)] [(.int b10)])) _
    refine XS.iload X11.here hx rfl (hb hby at_128) rfl ?_
    show Steps p.tables e below (T11.setTop (mkF m 130 #[.val (.int p1), .val (.int p2), .val (.int p3), .val (.int p4), .val (.int nn), .val (.int rr), .val (.ref o), .val (.int (1 : Int32)), .val (.int b10)] [(.int b10), (.int b10)])) _
    refine XS.icmpNo X11.here hx rfl (hb hby at_130) rfl (teq (rfl : b10 = b10)).2 ?_
    show Steps p.tables e below (T11.setTop (mkF m 133 #[.val (.int p1), .val (.int p2), .val (.int p3), .val (.int p4), .val (.int nn), .val (.int rr), .val (.ref o), .val (.int (1 : Int32)), .val (.int b10)] [])) _
    refine XS.iconst X11.here hx rfl (hb hby at_133) ?_
    show Steps p.tables e below (T11.setTop (mkF m 134 #[.val (.int p1), .val (.int p2), .val (.int p3), .val (.int p4), .val (.int nn), .val (.int rr), .val (.ref o), .val (.int (1 : Int32)), .val (.int b10)] [(.int (1 : Int32))])) _
    refine XS.goto X11.here hx rfl (pc0 := 134) (pc' := 138) rfl (hb hby at_134) (by decide) (by decide) ?_
    show Steps p.tables e below (T11.setTop (mkF m 138 #[.val (.int p1), .val (.int p2), .val (.int p3), .val (.int p4), .val (.int nn), .val (.int rr), .val (.ref o), .val (.int (1 : Int32)), .val (.int b10)] [(.int (1 : Int32))])) _
    exact retN X11 hx (t := .boolean) Bd.returns (by simp) (hb hby at_138) hr
  · show Q0 Z p1 p2 p3 p4  h0 n0 _ T11.heap _
    rw [e11]
    exact ⟨rfl, N11⟩

set_option maxRecDepth 65536 in
set_option maxHeartbeats 40000000 in
theorem comes_1 {Post : Tables → Env → Array Value → State → Outcome → State → Prop} (hpost : ∀ tb e args s v u, (limb_1_1.after args s (.returned v) u = true ∧ limb_1_2.after args s (.returned v) u = true ∧ True) → FrameEnd s (.returned v) u (Jvm.fieldLocs frame_1_writes args s ++ Jvm.arrayLocs frame_1_arrays args s ++ Jvm.staticLocs frame_1_statics s) 16 128 → Post tb e args s (.returned v) u) :
    ArmFor flags0 classFile x code maxLocals ret World_1 tables_1 room_1 Calls_1 rest_1 Pre_1 Post := by
  intro l hfl _ _ p e ha hc hk s m args below hf hA hF happ hP
  obtain ⟨hcalls, hrest, hpre⟩ := hP
  obtain ⟨-, -, -, hnamed, -, -, -, hat⟩ := (Spec.applies_iff hf).mp happ
  obtain ⟨hg, hn⟩ := and_e (Cond.before_iff.mp (show (Jvm.Cond.and given_1 narrow_1).before args s = true from hpre))
  obtain ⟨g0, k0⟩ := and_e hg
  obtain ⟨g1, k1⟩ := and_e k0
  obtain ⟨g2, k2⟩ := and_e k1
  obtain ⟨g3, k3⟩ := and_e k2
  obtain ⟨w0, w1, w2, w3, rfl⟩ : ∃ w0 w1 w2 w3 : Value, args = #[w0, w1, w2, w3] := by
    have hs : args.size = 4 := by simpa [Cond.value, given_1] using g0
    obtain ⟨L⟩ := args
    match L, hs with
    | [w0, w1, w2, w3], _ => exact ⟨w0, w1, w2, w3, rfl⟩
  have hw := fun d (hd : d ∈ tables_1) => atoms_spec (ws := Jvm.Cond.code x code maxLocals ret :: tables_1) hat d (List.mem_cons_of_mem _ hd)
  obtain ⟨i0, ei0⟩ := is_v g1
  obtain rfl : w0 = (.int i0) := Option.some.inj ei0
  obtain ⟨i1, ei1⟩ := is_v g2
  obtain rfl : w1 = (.int i1) := Option.some.inj ei1
  obtain ⟨i2, ei2⟩ := is_v g3
  obtain rfl : w2 = (.int i2) := Option.some.inj ei2
  obtain ⟨i3, ei3⟩ := is_v k3
  obtain rfl : w3 = (.int i3) := Option.some.inj ei3
  obtain ⟨n, o, h1, h2, h3, _, L, rfl, ⟨rfl, N⟩, hq⟩ := rm0 l s _ hw tables_1 i0 i1 i2 i3 s.heap s.heap.size (Nat.le_refl _) p e ha hc hk s m _ below hf ((Spec.applies_iff_loose hf).mp happ).1 ⟨rfl, State.Warmed39.refl s, rfl⟩ trivial
  refine ⟨n, _, h1, h2, h3, hpost _ _ _ _ _ _ ⟨Cond.after_iff.mpr rfl, Cond.after_iff.mpr (eq_i res_at (Term.int_eval (1)) rfl), trivial⟩ ⟨hq.1, hq.2.1, (hq.2.2.sift fun y hy => Or.inr (N y hy)).mono (by decide) (by decide)⟩⟩
theorem main_1_1 : Claimed_1_1 := comes_1 fun _ _ _ _ _ _ h hF => ⟨h.1, hF⟩
theorem main_1_2 : Claimed_1_2 := comes_1 fun _ _ _ _ _ _ h hF => ⟨h.2.1, hF⟩

end Jvm.Pilot.@@N@@
namespace Jvm.Pilot.@@N@@
open Jvm Jvm.ClassFile Sem Op Lib Jvm.Free Jvm.Stand Jvm.Pilot.@@N@@.Jvm.D
/-! MADE BY PROGRAM (witnessworld.py) out of the Statement's table words and the real class files: 9 classes; the members and pool entries that the words name. The judged class is class 1, her method 1. -/
namespace start1
open Jvm.ClassFile
def u (s : String) : CpInfo := .utf8 (stringToUtf16 s)
/-- a pool by its gaps: so many unusable entries, then the entry; so many at the end -/
def gap : Nat → List CpInfo → List CpInfo
  | 0, r => r
  | n + 1, r => .unusable :: gap n r
def poolList (es : List (Nat × CpInfo)) (last : Nat) : List CpInfo := es.foldr (fun e r => gap e.1 (e.2 :: r)) (gap last [])
def pool (es : List (Nat × CpInfo)) (last : Nat) : Array CpInfo := ⟨poolList es last⟩
def fileOf (pool : Array CpInfo) (this : Nat) (attrs : Array Attribute := #[]) (ms : Array MethodInfo := #[]) (fl : Nat := 33) (sup : Nat := 0) (ifs : Array Nat := #[]) (fds : Array FieldInfo := #[]) : ClassFile where
  minorVersion := 0
  majorVersion := 65
  constantPool := pool
  accessFlags := fl
  thisClass := this
  superClass := sup
  interfaces := ifs
  fields := fds
  methods := ms
  attributes := attrs
def plain (name : String) (sup : Option ClassId) : Class where
  name := name
  kind := .ordinary
  loader := none
  accessFlags := 33
  super := sup
  interfaces := #[]
  cf := none
  fields := #[]
  methods := #[]
  instanceTypes := #[]
  staticTypes := #[]
  resolved := #[]
  callSites := []
  init := .initialized
  statics := none
  mirror := none

def pool0 : Array CpInfo := pool [(5, u "<init>"), (0, u "()V"), (1, .class_ 10), (1, u "java/lang/Object")] 113

def k0c0 : Code := { maxStack := 0, maxLocals := 1, code := object_method_1_code, exceptionTable := #[], attributes := #[] }
def k0m0 : Method := { name := "<init>", desc := "()V", sig := { parameters := [], returnType := none }, accessFlags := 1, code := some k0c0 }
/-- java/lang/Object -/
def k0 : Class := { plain "java/lang/Object" none with
  accessFlags := 33
  interfaces := #[]
  cf := some (fileOf pool0 8 #[] #[{ accessFlags := 1, nameIndex := 5, descriptorIndex := 6, attributes := #[] }] 33 0 #[] #[])
  fields := #[]
  methods := #[k0m0]
  instanceTypes := #[]
  staticTypes := #[]
  resolved := Array.replicate 124 none
  statics := none }

def pool1 : Array CpInfo := pool [(2, .class_ 4), (0, .nameAndType 5 6), (0, u "java/lang/Object"), (0, u "<init>"), (0, u "()V"), (0, .class_ 8), (0, u "com/example/rollcall/rollcall/IntList"), (0, .methodref 7 3), (0, .methodref 7 11), (0, .nameAndType 12 13), (0, u "isEmpty"), (0, u "()Z"), (0, .methodref 7 15), (0, .nameAndType 16 17), (0, u "add"), (0, u "(I)V"), (0, .methodref 7 19), (0, .nameAndType 20 21), (0, u "removeLast"), (0, u "()I"), (0, .class_ 23), (0, u "com/example/rollcall/rollcall/IntListIsEmptyPinLaw"), (2, u "law"), (0, u "(IIII)Z")] 3

def k1m0 : Method := { name := "<init>", desc := "()V", sig := { parameters := [], returnType := none }, accessFlags := 1, code := none }
def k1c1 : Code := { maxStack := 3, maxLocals := 9, code := code, exceptionTable := #[], attributes := #[] }
def k1m1 : Method := { name := "law", desc := "(IIII)Z", sig := { parameters := [.int, .int, .int, .int], returnType := some .boolean }, accessFlags := 9, code := some k1c1 }
/-- com/example/rollcall/rollcall/IntListIsEmptyPinLaw -/
def k1 : Class := { plain "com/example/rollcall/rollcall/IntListIsEmptyPinLaw" (some 0) with
  accessFlags := 49
  interfaces := #[]
  cf := some (fileOf pool1 22 #[] #[{ accessFlags := 1, nameIndex := 5, descriptorIndex := 6, attributes := #[] }, { accessFlags := 9, nameIndex := 26, descriptorIndex := 27, attributes := #[] }] 49 2 #[] #[])
  fields := #[]
  methods := #[k1m0, k1m1]
  instanceTypes := #[]
  staticTypes := #[]
  resolved := Array.replicate 31 none
  statics := none }

def pool2 : Array CpInfo := pool [(1, .methodref 2 3), (0, .class_ 4), (0, .nameAndType 5 6), (0, u "java/lang/Object"), (0, u "<init>"), (0, u "()V"), (0, .fieldref 8 9), (0, .class_ 10), (0, .nameAndType 11 12), (0, u "com/example/rollcall/rollcall/IntList"), (0, u "items"), (0, u "[I"), (0, .fieldref 8 14), (0, .nameAndType 15 16), (0, u "size"), (0, u "I"), (8, u "add"), (0, u "(I)V"), (1, u "isEmpty"), (0, u "()Z"), (1, u "()I"), (0, u "removeLast")] 4

def k2c0 : Code := { maxStack := 2, maxLocals := 1, code := prog_10_method_1_code, exceptionTable := #[], attributes := #[] }
def k2m0 : Method := { name := "<init>", desc := "()V", sig := { parameters := [], returnType := none }, accessFlags := 0, code := some k2c0 }
def k2c1 : Code := { maxStack := 5, maxLocals := 3, code := prog_10_method_2_code, exceptionTable := #[], attributes := #[] }
def k2m1 : Method := { name := "add", desc := "(I)V", sig := { parameters := [.int], returnType := none }, accessFlags := 0, code := some k2c1 }
def k2c2 : Code := { maxStack := 1, maxLocals := 1, code := prog_10_method_3_code, exceptionTable := #[], attributes := #[] }
def k2m2 : Method := { name := "isEmpty", desc := "()Z", sig := { parameters := [], returnType := some .boolean }, accessFlags := 0, code := some k2c2 }
def k2c3 : Code := { maxStack := 3, maxLocals := 1, code := prog_10_method_5_code, exceptionTable := #[], attributes := #[] }
def k2m3 : Method := { name := "removeLast", desc := "()I", sig := { parameters := [], returnType := some .int }, accessFlags := 0, code := some k2c3 }
/-- com/example/rollcall/rollcall/IntList -/
def k2 : Class := { plain "com/example/rollcall/rollcall/IntList" (some 0) with
  accessFlags := 48
  interfaces := #[]
  cf := some (fileOf pool2 8 #[] #[{ accessFlags := 0, nameIndex := 5, descriptorIndex := 6, attributes := #[] }, { accessFlags := 0, nameIndex := 25, descriptorIndex := 26, attributes := #[] }, { accessFlags := 0, nameIndex := 28, descriptorIndex := 29, attributes := #[] }, { accessFlags := 0, nameIndex := 32, descriptorIndex := 31, attributes := #[] }] 48 2 #[] #[{ accessFlags := 2, nameIndex := 11, descriptorIndex := 12, attributes := #[] }, { accessFlags := 2, nameIndex := 15, descriptorIndex := 16, attributes := #[] }])
  fields := #[{ name := "items", type := (.array .int), accessFlags := 2, slot := 0, constantValue := 0 }, { name := "size", type := .int, accessFlags := 2, slot := 1, constantValue := 0 }]
  methods := #[k2m0, k2m1, k2m2, k2m3]
  instanceTypes := #[(.array .int), .int]
  staticTypes := #[]
  resolved := Array.replicate 37 none
  statics := none }

def pool3 : Array CpInfo := pool [(1, u "java/lang/Cloneable"), (0, .class_ 1), (0, u "java/lang/Object"), (0, .class_ 3)] 3

/-- java/lang/Cloneable -/
def k3 : Class := { plain "java/lang/Cloneable" (some 0) with
  accessFlags := 1537
  interfaces := #[]
  cf := some (fileOf pool3 2 #[] #[] 1537 4 #[] #[])
  fields := #[]
  methods := #[]
  instanceTypes := #[]
  staticTypes := #[]
  resolved := Array.replicate 8 none
  statics := none }

def pool4 : Array CpInfo := pool [(1, u "java/io/Serializable"), (0, .class_ 1), (0, u "java/lang/Object"), (0, .class_ 3)] 3

/-- java/io/Serializable -/
def k4 : Class := { plain "java/io/Serializable" (some 0) with
  accessFlags := 1537
  interfaces := #[]
  cf := some (fileOf pool4 2 #[] #[] 1537 4 #[] #[])
  fields := #[]
  methods := #[]
  instanceTypes := #[]
  staticTypes := #[]
  resolved := Array.replicate 8 none
  statics := none }

/-- the primitive byte -/
def k5 : Class := { plain "byte" none with kind := .primitive 'B', accessFlags := 0x411 }
/-- [B -/
def k6 : Class := { plain "[B" (some 0) with kind := .array 5 .byte, interfaces := #[3, 4], accessFlags := 1041 }

/-- the primitive int -/
def k7 : Class := { plain "int" none with kind := .primitive 'I', accessFlags := 0x411 }
/-- [I -/
def k8 : Class := { plain "[I" (some 0) with kind := .array 7 .int, interfaces := #[3, 4], accessFlags := 1041 }

def heap : Heap := #[]
def classes : Array Class := #[k0, k1, k2, k3, k4, k5, k6, k7, k8]
def interned : List (Array UInt16 × Addr) := []
def slotsUsed : Nat := 0
def theMethod : MethodId := ⟨1, 1⟩
def args0 : Array Value := #[.int 5, .int 3, .int 9, .int 1]
def aboutOver (below : List Frame) : State where
  vm := { classes := classes, interned := interned.toArray }
  heap := heap
  slotsUsed := slotsUsed
  threads := #[{ frames := .invoking theMethod args0 :: below }]
def below0 : List Frame := [.native { method := ⟨0, 0⟩, args := #[] }]
def about1 : State := aboutOver below0
def p0 : Program := .bare "" "" ""
def e0 : Env := launch0.env 0 0 0
theorem w_frames : about1.frames = Frame.invoking theMethod args0 :: below0 := rfl
set_option maxRecDepth 65536 in
theorem w_args : argsFit about1.vm theMethod args0 = true := by decide +kernel
set_option maxRecDepth 65536 in
theorem w_heap : heapFits about1 = true := by decide +kernel
set_option maxRecDepth 65536 in
theorem w_runnable : about1.curStatus? = some .runnable := by decide +kernel
set_option maxRecDepth 65536 in
theorem w_alone : about1.alone = true := by decide +kernel
set_option maxRecDepth 65536 in
theorem w_named : about1.methodNamed? x = some theMethod := by decide +kernel
set_option maxRecDepth 65536 in
theorem w_hears : about1.hears theMethod below0 = true := by decide +kernel
set_option maxRecDepth 65536 in
theorem w_ripe : about1.ripe theMethod args0 below0 = true := by decide +kernel
theorem w_running : about1.status = .running := rfl
set_option maxRecDepth 65536 in
theorem w_room : about1.hasRoom e0.platform room_1 = true :=
  launch0.hasRoom_least _ room_1 (by decide +kernel) (by decide +kernel) (by decide +kernel) (by decide +kernel) (by decide +kernel) (by decide +kernel)
theorem allAtoms_all (ts : List Jvm.Cond) (a : Array Jvm.Value) (st : Jvm.State) : (allAtoms ts).before a st = ts.all (fun c => c.before a st) := by
  induction ts with
  | nil => rfl
  | cons c t ih =>
    show (Jvm.Cond.and c (allAtoms t)).before a st = _
    rw [Jvm.Cond.before_and, ih, List.all_cons]
def words1 : List Jvm.Cond := Jvm.Cond.code x code maxLocals ret :: tables_1
/-- a 'code' word, met by the world's own term for the bytes: nothing is compared byte by byte -/
theorem code_word {y : MethodName} {bytes : ByteArray} {mx : Nat} {rt : Option FieldType} {a : Array Value} {s : State} {m : MethodId} {meth : Method} {c : Code} (h1 : s.methodNamed? y = some m) (h2 : s.vm.method? m = some meth) (h3 : meth.code = some c) (h4 : c.code = bytes)
    (h5 : (c.maxLocals == mx && c.exceptionTable.isEmpty && decide (c.maxStack ≤ mostOperands) && decide (meth.sig.returnType = rt) && !meth.locks && decide (parseMethodDescriptor y.desc = some meth.sig)) = true) : (Jvm.Cond.code y bytes mx rt).before a s = true := by
  simp only [Bool.and_eq_true, beq_iff_eq, Bool.not_eq_true', decide_eq_true_eq] at h5
  obtain ⟨⟨⟨⟨⟨g1, g2⟩, g3⟩, g4⟩, g5⟩, g6⟩ := h5
  simp [Cond.before, Cond.holds, Cond.value, h1, h2, h3, h4, g1, g2, g3, g4, g5, g6]
def isCode : Jvm.Cond → Bool
  | .code _ _ _ _ => true
  | _ => false
theorem all_split {L : List Jvm.Cond} {P : Jvm.Cond → Bool} (h1 : L.all (fun c => isCode c || P c) = true) (h2 : ∀ c ∈ L.filter isCode, P c = true) : L.all P = true := by
  refine List.all_eq_true.mpr fun c hc => ?_
  have h := List.all_eq_true.mp h1 c hc
  rcases Bool.eq_false_or_eq_true (isCode c) with hi | hi
  · exact h2 c (List.mem_filter.mpr ⟨hc, hi⟩)
  · simpa [hi] using h
set_option maxRecDepth 65536 in
theorem w_c0 : (Jvm.Cond.code x code maxLocals ret).before args0 about1 = true := code_word (m := ⟨1, 1⟩) (meth := k1m1) (c := k1c1) (by decide +kernel) rfl rfl rfl (by decide +kernel)
set_option maxRecDepth 65536 in
theorem w_c1 : (Jvm.Cond.code ({ cls := "com/example/rollcall/rollcall/IntList", name := "<init>", desc := "()V" } : Jvm.MethodName) prog_10_method_1_code (1 : Nat) (Option.none : Option Jvm.ClassFile.FieldType)).before args0 about1 = true := code_word (m := ⟨2, 0⟩) (meth := k2m0) (c := k2c0) (by decide +kernel) rfl rfl rfl (by decide +kernel)
set_option maxRecDepth 65536 in
theorem w_c2 : (Jvm.Cond.code ({ cls := "java/lang/Object", name := "<init>", desc := "()V" } : Jvm.MethodName) object_method_1_code (1 : Nat) (Option.none : Option Jvm.ClassFile.FieldType)).before args0 about1 = true := code_word (m := ⟨0, 0⟩) (meth := k0m0) (c := k0c0) (by decide +kernel) rfl rfl rfl (by decide +kernel)
set_option maxRecDepth 65536 in
theorem w_c3 : (Jvm.Cond.code ({ cls := "com/example/rollcall/rollcall/IntList", name := "isEmpty", desc := "()Z" } : Jvm.MethodName) prog_10_method_3_code (1 : Nat) (Option.some Jvm.ClassFile.FieldType.boolean)).before args0 about1 = true := code_word (m := ⟨2, 2⟩) (meth := k2m2) (c := k2c2) (by decide +kernel) rfl rfl rfl (by decide +kernel)
set_option maxRecDepth 65536 in
theorem w_c4 : (Jvm.Cond.code ({ cls := "com/example/rollcall/rollcall/IntList", name := "add", desc := "(I)V" } : Jvm.MethodName) prog_10_method_2_code (3 : Nat) (Option.none : Option Jvm.ClassFile.FieldType)).before args0 about1 = true := code_word (m := ⟨2, 1⟩) (meth := k2m1) (c := k2c1) (by decide +kernel) rfl rfl rfl (by decide +kernel)
set_option maxRecDepth 65536 in
theorem w_c5 : (Jvm.Cond.code ({ cls := "com/example/rollcall/rollcall/IntList", name := "removeLast", desc := "()I" } : Jvm.MethodName) prog_10_method_5_code (1 : Nat) (Option.some Jvm.ClassFile.FieldType.int)).before args0 about1 = true := code_word (m := ⟨2, 3⟩) (meth := k2m3) (c := k2c3) (by decide +kernel) rfl rfl rfl (by decide +kernel)
def codes1 : List Jvm.Cond := [Jvm.Cond.code x code maxLocals ret, Jvm.Cond.code ({ cls := "com/example/rollcall/rollcall/IntList", name := "<init>", desc := "()V" } : Jvm.MethodName) prog_10_method_1_code (1 : Nat) (Option.none : Option Jvm.ClassFile.FieldType), Jvm.Cond.code ({ cls := "java/lang/Object", name := "<init>", desc := "()V" } : Jvm.MethodName) object_method_1_code (1 : Nat) (Option.none : Option Jvm.ClassFile.FieldType), Jvm.Cond.code ({ cls := "com/example/rollcall/rollcall/IntList", name := "isEmpty", desc := "()Z" } : Jvm.MethodName) prog_10_method_3_code (1 : Nat) (Option.some Jvm.ClassFile.FieldType.boolean), Jvm.Cond.code ({ cls := "com/example/rollcall/rollcall/IntList", name := "add", desc := "(I)V" } : Jvm.MethodName) prog_10_method_2_code (3 : Nat) (Option.none : Option Jvm.ClassFile.FieldType), Jvm.Cond.code ({ cls := "com/example/rollcall/rollcall/IntList", name := "removeLast", desc := "()I" } : Jvm.MethodName) prog_10_method_5_code (1 : Nat) (Option.some Jvm.ClassFile.FieldType.int)]
set_option maxRecDepth 65536 in
theorem codes_eq : words1.filter isCode = codes1 := rfl
theorem w_codes : ∀ c ∈ words1.filter isCode, c.before args0 about1 = true := by
  rw [codes_eq]
  intro c hc
  simp only [codes1, List.mem_cons, List.not_mem_nil, or_false] at hc
  rcases hc with rfl | rfl | rfl | rfl | rfl | rfl
  · exact w_c0
  · exact w_c1
  · exact w_c2
  · exact w_c3
  · exact w_c4
  · exact w_c5
set_option maxRecDepth 65536 in
theorem w_t1 : (words1.take 24).all (fun c => isCode c || c.before args0 about1) = true := by decide +kernel
set_option maxRecDepth 65536 in
theorem w_t2 : (words1.drop 24).all (fun c => isCode c || c.before args0 about1) = true := by decide +kernel
theorem w_tables : (allAtoms (Jvm.Cond.code x code maxLocals ret :: tables_1)).before args0 about1 = true := by
  rw [allAtoms_all]
  show words1.all (fun c => c.before args0 about1) = true
  refine all_split ?_ w_codes
  rw [← List.take_append_drop 24 words1, List.all_append, w_t1, w_t2]
  rfl
set_option maxRecDepth 65536 in
theorem w_case : (Jvm.Cond.and given_1 narrow_1).before args0 about1 = true := by decide +kernel
theorem w_applies : (headSpec (Jvm.Cond.code x code maxLocals ret :: tables_1) room_1).applies x e0.platform about1 = true :=
  (Spec.applies_iff w_frames).mpr ⟨w_running, w_runnable, w_alone, w_named, w_hears, w_ripe, w_room, w_tables⟩
theorem atStart : AtStart classFile x code maxLocals ret World_1 tables_1 room_1 Calls_1 rest_1 Pre_1 launch0 p0 e0 about1 theMethod args0 below0 :=
  ⟨lists_1, trivial, launch0.admits_env _ _ _, launch0.least_env, fairChoices_fair.cas, fairChoices_fair.clock, w_frames, w_args, w_heap, w_applies, trivial, trivial, w_case⟩
end start1
theorem witness_1 : WitnessClaimed_1 := ⟨start1.p0, start1.e0, start1.about1, start1.theMethod, start1.args0, start1.below0, start1.atStart⟩
end Jvm.Pilot.@@N@@
