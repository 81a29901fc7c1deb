import JvmDerived
import JvmDerived.Pilot.@@N@@Statement
import JvmDerived.Pilot.@@N@@Code
set_option linter.unusedVariables false
set_option linter.unusedSimpArgs false

namespace Jvm.RoadKit
open Sem ClassFile Op Lib Jvm.Stand Jvm.Free Jvm.LawKit
section New
variable {p : Program} {l : Launch} {e : Env} {R : Room} {s : State} {m : MethodId} {args : Array Value} {below : List Frame} {meth : Method} {c : Code} {T : State} {locs : List Loc} {cells slots : Nat}
theorem retI (X : Stand p l e R s m args below meth c T locs cells slots) (hx : p.tables.exec = Jvm.exec) {pc : Nat} {Ls : Array Slot} {z : Int32} {rest : List Value} (hret : meth.sig.returnType = some .int) (hd : decode c.code pc = .ok (.ireturn, 1)) {fs : List Frame}
    (hl : ∀ (f : JFrame) (acts : List Action), f.method = m → f.locked = none → f.entered = [] → (doReturn e (T.setTop f) acts (some (.int z))).1 = T.setFrames fs) : Steps p.tables e below (T.setTop (mkF m pc Ls (.int z :: rest))) (T.setFrames fs) := by
  have hm' : T.vm.method? m = some meth := X.method'
  have hn : narrow .int (.int z) = .int z := rfl
  show Steps p.tables e below (T.setTop { method := m, pc := pc, locals := Ls, stack := _ :: rest, locked := none }) _
  jvm_step X.here [X.here.top, hx, hd, hm', hret, hn]
  first | (intro acts; rw [hl _ acts rfl rfl rfl]) | rw [hl _ _ rfl rfl rfl]
  exact Steps.refl _
end New
end Jvm.RoadKit

namespace Jvm.Pilot.@@N@@
open Jvm Jvm.ClassFile Sem Op Lib Jvm.Free Jvm.Stand Jvm.LawKit Jvm.RoadKit Bundle Jvm.Pilot.@@N@@.Jvm.D

def own_Lits (U : State) : Prop := ∃ x y : Addr, Lit U "com/example/equate/equate/VoteRank" 7 x ∧ Lit U "com/example/equate/equate/VoteRank" 15 y
/-- a String constant loaded, cold or warm, in the middle of a walk: where it is booked too -/
theorem own_ldc {p : Program} {l : Launch} {e : Env} {R : Room} {s : State} {m : MethodId} {args : Array Value} {below : List Frame} {meth : Method} {c : Code} {T : State} {locs : List Loc} {cells slots : Nat} {Z : State} {a0 : Array Value} {h : Heap}
    (X : Stand p l e R s m args below meth c T locs cells slots) (hx : p.tables.exec = Jvm.exec) (hZ : Z.Warmed39 s.vm) {own text : String} {index : Nat} (hown : s.vm.findClass own = some m.cls) (w : (Cond.stringLink own index text).before a0 Z = true)
    (w1 : (Cond.initialized "java/lang/String").before a0 Z = true) (w2 : (Cond.instantiable "java/lang/String" 4).before a0 Z = true) (w3 : (Cond.arrayClass .byte).before a0 Z = true) (w4 : (Cond.laysFinal "java/lang/String" "java/lang/String" "value" "[B").before a0 Z = true) (w5 : (Cond.laysFinal "java/lang/String" "java/lang/String" "coder" "B").before a0 Z = true) (w6 : (Cond.soleField "java/lang/String" "value").before a0 Z = true) (w7 : (Cond.soleField "java/lang/String" "coder").before a0 Z = true)
    (eT : T.heap = h) {g : JFrame} (hg : g.method = m) (hd : decode c.code g.pc = .ok (.ldc index, 2)) {n : Nat} (hn : 4 * text.toList.length ≤ n) (hbig : n ≤ 536870912) (hc : cells + 2 ≤ R.cells) (hl : slots + (n + 4) ≤ R.slots) :
    ∃ (a : Addr) (T' : State) (h' : Heap), Stand p l e R (s.setVm T'.vm) m args below meth c T' locs (cells + 2) (slots + (n + 4)) ∧ T'.heap = h' ∧ Ext h h' ∧ s.Since T'.vm h'.size ∧ Z.Warmed39 (s.setVm T'.vm).vm ∧ (s.setVm T'.vm).vm.findClass own = some m.cls ∧ Lit (s.setVm T'.vm) own index a ∧
      ∀ target, Steps p.tables e below (T'.setTop { g with pc := g.pc + 2, stack := .ref a :: g.stack }) target → Steps p.tables e below (T.setTop g) target := by
  subst eT
  have hat : ∀ d ∈ Bundle.stringAtoms, d.before args s = true := by
    intro d hd
    simp only [Bundle.stringAtoms, List.mem_cons, List.not_mem_nil, or_false] at hd
    rcases hd with rfl | rfl | rfl | rfl | rfl | rfl | rfl
    · exact mv hZ w1
    · exact mv hZ w2
    · exact mvA hZ w3
    · exact mv hZ w4
    · exact mv hZ w5
    · exact mv hZ w6
    · exact mv hZ w7
  obtain ⟨a, T', X', hS', ⟨k2, hk1, hk2⟩, hb, -, st⟩ := X.ldcStringCold hx (own := own) (text := text) (index := index) hown (mvS (s := s) hZ w) hat hg hd hn hbig hc hl
  have hf : (s.setVm T'.vm).vm.findClass own = some m.cls := (hS'.1.alike.findClass _ _).trans hown
  refine ⟨a, T', _, X', rfl, ext_of hb, hS', State.Warmed39.trans hZ hS'.1, hf, ?_, st⟩
  show (s.setVm T'.vm).resolvedAt? own index = some (.string a)
  have hf' : T'.vm.findClass own = some m.cls := hf
  simp [State.resolvedAt?, State.setVm, hf', hk1, hk2]
theorem own_stays {s : State} {vm1 : Vm} {own : String} {i : Nat} {a : Addr} (L : Lit s own i a) (hW : s.Warmed39 vm1) : Lit (s.setVm vm1) own i a := State.resolvedAt?_warmed39 hW L
section Own
variable {p : Program} {l : Launch} {e : Env} {R : Room} {s : State} {args : Array Value} {below : List Frame} {Z : State} {a0 : Array Value} {h : Heap}
/-- a callee that may intern, by its contract, which tells of its tables too -/
theorem own_backS {y : MethodName} {bytes : ByteArray} {maxL : Nat} {ret : Option FieldType} {rm : Room} {len W : Nat} {as' : Array Value} {Q : Option Value → Heap → List Loc → Prop}
    (hM : MetFree l y (head1 [Cond.code y bytes maxL ret] rm) (fun a U => a = as' ∧ Z.Warmed39 U.vm ∧ U.heap = h) (fun _ _ _ _ _ => True) (fun _ U o U' => ∃ v L, o = .returned v ∧ (Q v U'.heap L ∧ own_Lits U') ∧ ReturnedEndW U o U' L rm.cells rm.slots))
    (hZ : Z.Warmed39 s.vm) (wc : (Cond.code y bytes maxL ret).before a0 Z = true) (wz : (Cond.initialized y.cls).before a0 Z = true) (hf : rm.frames + 1 ≤ R.frames) (hl : W + (maxL + 11) + rm.locals ≤ R.locals) :
    BackS l R p e below s args y len W (fun A a => a = as' ∧ A.U.heap = h ∧ A.cells + rm.cells ≤ R.cells ∧ A.slots + rm.slots ≤ R.slots)
      (fun A _ v B => ∃ L, (Q v B.U.heap L ∧ own_Lits B.U) ∧ B.locs = A.locs ++ L ∧ B.cells = A.cells + rm.cells ∧ B.slots = A.slots + rm.slots) := by
  refine BackS.of_freeW (bytes := bytes) (maxL := maxL) (ret := ret) (E := fun _ _ o t L k n => k = rm.cells ∧ n = rm.slots ∧ ∃ v, o = .returned v ∧ Q v t.heap L ∧ own_Lits t) hM hf hl ?_ ?_ ?_ ?_ ?_
  · intro m meth c A a Y hp
    have hU : Z.Warmed39 A.U.vm := wtrans hZ Y.warmed
    exact ⟨by show (Cond.and _ .tt).before a A.U = true; rw [Cond.before_and, mv hU wc]; rfl, mv hU wc, mv hU wz, hp.2.2.1, hp.2.2.2⟩
  · intro m meth c A a g mk Y hp
    exact ⟨hp.1, wtrans hZ Y.warmed, hp.2.1⟩
  · intro m meth c A a g mk Y hp
    trivial
  · rintro a first o t ⟨v, L, h1, h2, h3⟩
    exact ⟨L, _, _, h3, rfl, rfl, v, h1, h2⟩
  · rintro m meth c A a g mk v t L k n Y hp - - ⟨e1, e2, v', e3, e4⟩
    cases e3
    subst e1 e2
    exact ⟨L, e4, rfl, rfl, rfl⟩
end Own
theorem own_rides : ∀ d ∈ tables_1, d.ridesW = true := by decide +kernel
theorem own_pct {x u : Int32} (h : u = ((x &&& (2147483647 : Int32)) % (101 : Int32))) : 0 ≤ u.toInt ∧ u.toInt ≤ 100 := by
  have h1 := c_mask x (2147483647 : Int32) 31 (by decide) (by decide)
  have h2 := (c_irem (x &&& (2147483647 : Int32)) (101 : Int32) 101 rfl).1 (by omega)
  rw [← h] at h2
  omega
theorem own_ok {u : Int32} (h : 0 ≤ u.toInt ∧ u.toInt ≤ 100) : (¬ u < (0 : Int32)) ∧ (¬ (100 : Int32) < u) := by
  have e0 : (0 : Int32).toInt = 0 := rfl
  have e1 : (100 : Int32).toInt = 100 := rfl
  rw [Int32.lt_iff_toInt_lt, Int32.lt_iff_toInt_lt, e0, e1]
  omega
def own_rank (u d : Int32) : Int32 := (u - d) + (100 : Int32)
theorem own_rk {u d : Int32} (hu : 0 ≤ u.toInt ∧ u.toInt ≤ 100) (hd : 0 ≤ d.toInt ∧ d.toInt ≤ 100) : (own_rank u d).toInt = u.toInt - d.toInt + 100 := by
  have c1 := c_isub u d
  have c2 := c_iadd (u - d) (100 : Int32)
  have e : (100 : Int32).toInt = 100 := rfl
  have r1 := rng32 (u - d)
  have r2 := rng32 (own_rank u d)
  rw [e] at c2
  unfold own_rank at *
  omega
theorem own_all {u d : Int32} (hu : 0 ≤ u.toInt ∧ u.toInt ≤ 100) (hd : 0 ≤ d.toInt ∧ d.toInt ≤ 100) :
    (¬ own_rank u d < (0 : Int32)) ∧ (¬ (200 : Int32) < own_rank u d) ∧ (own_rank (0 : Int32) (0 : Int32) = (100 : Int32)) ∧ ((own_rank u d + own_rank d u) = (200 : Int32)) ∧ ((own_rank (0 : Int32) d + own_rank d (0 : Int32)) = (200 : Int32)) ∧
    ((own_rank u d - own_rank (0 : Int32) d) = u) ∧ ((own_rank d (0 : Int32) - own_rank (0 : Int32) (0 : Int32)) = d) := by
  have z : 0 ≤ (0 : Int32).toInt ∧ (0 : Int32).toInt ≤ 100 := by decide
  have e0 : (0 : Int32).toInt = 0 := rfl
  have e1 : (100 : Int32).toInt = 100 := rfl
  have e2 : (200 : Int32).toInt = 200 := rfl
  have a1 := own_rk hu hd
  have a2 := own_rk hd hu
  have a3 := own_rk z hd
  have a4 := own_rk hd z
  have a5 := own_rk z z
  rw [e0] at a3 a4 a5
  have s1 := c_iadd (own_rank u d) (own_rank d u)
  have s2 := c_iadd (own_rank (0 : Int32) d) (own_rank d (0 : Int32))
  have s3 := c_isub (own_rank u d) (own_rank (0 : Int32) d)
  have s4 := c_isub (own_rank d (0 : Int32)) (own_rank (0 : Int32) (0 : Int32))
  have r1 := rng32 (own_rank u d + own_rank d u)
  have r2 := rng32 (own_rank (0 : Int32) d + own_rank d (0 : Int32))
  have r3 := rng32 (own_rank u d - own_rank (0 : Int32) d)
  have r4 := rng32 (own_rank d (0 : Int32) - own_rank (0 : Int32) (0 : Int32))
  refine ⟨?_, ?_, by decide, ?_, ?_, ?_, ?_⟩
  · rw [Int32.lt_iff_toInt_lt, e0]; omega
  · rw [Int32.lt_iff_toInt_lt, e2]; omega
  · refine Int32.toInt_inj.mp ?_; rw [e2]; omega
  · refine Int32.toInt_inj.mp ?_; rw [e2]; omega
  · refine Int32.toInt_inj.mp ?_; omega
  · refine Int32.toInt_inj.mp ?_; omega

theorem d2_0 : decode jdk_30_method_1_code 0 = .ok (.aload_n 0, 1) := by decide +kernel
theorem d2_1 : decode jdk_30_method_1_code 1 = .ok (.invokespecial 1, 3) := by decide +kernel
theorem d2_4 : decode jdk_30_method_1_code 4 = .ok (.return_, 1) := by decide +kernel
theorem pn_1 : plainName "java/lang/Record" = true := by first | (simp [plainName, overriddenIn]; done) | decide +kernel
theorem ef_2 (m : MethodId) (x0 : Addr) : entryFrame m #[(.ref x0)] 1 = mkF m 0 #[.val (.ref x0)] [] := by first | (simp [entryFrame, mkF, argsToLocals, Value.category]; done) | rfl
def Q2 (Z : State) (a1 : Addr)  (h0 : Heap) (n0 : Nat) (v : Option Value) (h : Heap) (L : List Loc) : Prop := v = none ∧ Fr n0 L ∧ h = h0
set_option maxRecDepth 65536 in
set_option maxHeartbeats 40000000 in
theorem rm2 (l : Launch) (Z : State) (a0 : Array Value) (hw : ∀ d ∈ tables_1, d.before a0 Z = true) (ws : List Jvm.Cond) (a1 : Addr)  (h0 : Heap) (n0 : Nat) (Z0 : n0 ≤ h0.size)  :
    MetFree l (⟨"java/lang/Record", "<init>", "()V"⟩ : MethodName) (head1 (Jvm.Cond.code (⟨"java/lang/Record", "<init>", "()V"⟩ : MethodName) jdk_30_method_1_code 1 none :: ws) ({ frames := 1, cells := 0, slots := 0, locals := 12 } : Room)) (fun a U => a = #[(.ref a1)] ∧ Z.Warmed39 U.vm ∧ U.heap = h0) (fun _ _ _ _ _ => True) (fun _ U o U' => ∃ v L, o = .returned v ∧ Q2 Z a1  h0 n0 v U'.heap L ∧ FrameEnd U o U' L ({ frames := 1, cells := 0, slots := 0, locals := 12 } : Room).cells ({ frames := 1, cells := 0, slots := 0, locals := 12 } : Room).slots) := by
  refine MetFree.of_bodySF (plainFor_of_name pn_1) hisR ?_
  intro p e s m args below meth c s₁ Bd hml0 hP hK
  obtain ⟨rfl, hZ, hh⟩ := hP
  have hx := Bd.exec
  have hby := Bd.bytes
  have hml : c.maxLocals = 1 := hml0
  have hown : s.vm.findClass "java/lang/Record" = some m.cls := findClass_of_methodNamed Bd.named
  have hnm := (name_of_methodNamed Bd.named Bd.method).1
  have X0 : Stand p l e ({ frames := 1, cells := 0, slots := 0, locals := 12 } : Room) s m #[(.ref a1)] below meth c s₁ [] 0 0 := Stand.of_body Bd
  have e0 : s₁.heap = h0 := by rw [← hh, Bd.state]; rfl
  have N0 := Fr.nil n0
  have pre0 : ∀ t, Steps p.tables e below (s₁.setTop (mkF m 0 #[.val (.ref a1)] [])) t → Steps p.tables e below (s₁.setTop (entryFrame m #[(.ref a1)] 1)) t := fun t k => castTop (ef_2 m a1) k
  obtain ⟨T1, X1, e1, st1⟩ := initO X0 hx hZ hown (hw _ (List.mem_of_getElem? (i := 12) rfl)) (hw _ (List.mem_of_getElem? (i := 13) rfl)) (hw _ (List.mem_of_getElem? (i := 14) rfl)) e0 (g := (mkF m 1 #[.val (.ref a1)] [(.ref a1)])) rfl (by rw [hml]; rfl) rfl (hb hby d2_1) (by decide) (W := 0) (by show 2 * 0 + _ ≤ _; exact Nat.le_of_eq rfl) (by decide)
  obtain ⟨fs, hr, hrun, hended, hW, hsame⟩ := X1.leave (v := none) (fun _ => rfl)
  refine ⟨_, _, pre0 _ ?_, hrun, hended, _, _, rfl, ?_, ⟨_, rfl⟩, hW, hsame.mono (by decide) (by decide)⟩
  · show Steps p.tables e below (s₁.setTop (mkF m 0 #[.val (.ref a1)] [])) _
    refine XS.aloadN X0.here hx rfl (hb hby d2_0) rfl rfl ?_
    show Steps p.tables e below (s₁.setTop (mkF m 1 #[.val (.ref a1)] [(.ref a1)])) _
    refine st1 _ ?_
    show Steps p.tables e below (T1.setTop (mkF m 4 #[.val (.ref a1)] [])) _
    exact X1.returnOut hx Bd.returns (hb hby d2_4) hr
  · show Q2 Z a1  h0 n0 _ T1.heap _
    rw [e1]
    exact ⟨rfl, N0, rfl⟩

theorem d4_0 : decode prog_3_method_5_code 0 = .ok (.iload_n 1, 1) := by decide +kernel
theorem d4_1 : decode prog_3_method_5_code 1 = .ok (.ifCond .lt 9, 3) := by decide +kernel
theorem d4_4 : decode prog_3_method_5_code 4 = .ok (.iload_n 1, 1) := by decide +kernel
theorem d4_5 : decode prog_3_method_5_code 5 = .ok (.bipush 100, 2) := by decide +kernel
theorem d4_7 : decode prog_3_method_5_code 7 = .ok (.if_icmp .le 31, 3) := by decide +kernel
theorem d4_38 : decode prog_3_method_5_code 38 = .ok (.return_, 1) := by decide +kernel
theorem pn_2 : plainName "com/example/equate/equate/VoteRank" = true := by first | (simp [plainName, overriddenIn]; done) | decide +kernel
theorem ef_4 (m : MethodId) (x0 : Addr) (x1 : Int32) : entryFrame m #[(.ref x0), (.int x1)] 2 = mkF m 0 #[.val (.ref x0), .val (.int x1)] [] := by first | (simp [entryFrame, mkF, argsToLocals, Value.category]; done) | rfl
def Q4 (Z : State) (a1 : Addr) (p2 : Int32)  (h0 : Heap) (n0 : Nat) (v : Option Value) (h : Heap) (L : List Loc) : Prop := v = none ∧ Fr n0 L ∧ h = h0
set_option maxRecDepth 65536 in
set_option maxHeartbeats 40000000 in
theorem rm4 (l : Launch) (Z : State) (a0 : Array Value) (hw : ∀ d ∈ tables_1, d.before a0 Z = true) (ws : List Jvm.Cond) (a1 : Addr) (p2 : Int32)  (h0 : Heap) (n0 : Nat) (Z0 : n0 ≤ h0.size) (hs1 : ¬ p2 < (0 : Int32)) (hs2 : ¬ (100 : Int32) < p2) :
    MetFree l (⟨"com/example/equate/equate/VoteRank", "requirePercentage", "(Ljava/lang/String;I)V"⟩ : MethodName) (head1 (Jvm.Cond.code (⟨"com/example/equate/equate/VoteRank", "requirePercentage", "(Ljava/lang/String;I)V"⟩ : MethodName) prog_3_method_5_code 2 none :: ws) ({ frames := 0, cells := 0, slots := 0, locals := 0 } : Room)) (fun a U => a = #[(.ref a1), (.int p2)] ∧ Z.Warmed39 U.vm ∧ U.heap = h0) (fun _ _ _ _ _ => True) (fun _ U o U' => ∃ v L, o = .returned v ∧ Q4 Z a1 p2  h0 n0 v U'.heap L ∧ FrameEnd U o U' L ({ frames := 0, cells := 0, slots := 0, locals := 0 } : Room).cells ({ frames := 0, cells := 0, slots := 0, locals := 0 } : Room).slots) := by
  refine MetFree.of_bodySF (plainFor_of_name pn_2) hisR ?_
  intro p e s m args below meth c s₁ Bd hml0 hP hK
  obtain ⟨rfl, hZ, hh⟩ := hP
  have hx := Bd.exec
  have hby := Bd.bytes
  have hml : c.maxLocals = 2 := hml0
  have hown : s.vm.findClass "com/example/equate/equate/VoteRank" = some m.cls := findClass_of_methodNamed Bd.named
  have hnm := (name_of_methodNamed Bd.named Bd.method).1
  have X0 : Stand p l e ({ frames := 0, cells := 0, slots := 0, locals := 0 } : Room) s m #[(.ref a1), (.int p2)] below meth c s₁ [] 0 0 := Stand.of_body Bd
  have e0 : s₁.heap = h0 := by rw [← hh, Bd.state]; rfl
  have N0 := Fr.nil n0
  have pre0 : ∀ t, Steps p.tables e below (s₁.setTop (mkF m 0 #[.val (.ref a1), .val (.int p2)] [])) t → Steps p.tables e below (s₁.setTop (entryFrame m #[(.ref a1), (.int p2)] 2)) t := fun t k => castTop (ef_4 m a1 p2) k
  obtain ⟨fs, hr, hrun, hended, hW, hsame⟩ := X0.leave (v := none) (fun _ => rfl)
  refine ⟨_, _, pre0 _ ?_, hrun, hended, _, _, rfl, ?_, ⟨_, rfl⟩, hW, hsame.mono (by decide) (by decide)⟩
  · show Steps p.tables e below (s₁.setTop (mkF m 0 #[.val (.ref a1), .val (.int p2)] [])) _
    refine XS.iloadN X0.here hx rfl (hb hby d4_0) rfl ?_
    show Steps p.tables e below (s₁.setTop (mkF m 1 #[.val (.ref a1), .val (.int p2)] [(.int p2)])) _
    refine XS.ifNo X0.here hx rfl (hb hby d4_1) rfl ((if0 _ _).trans (flt (hs1 : ¬ (p2 < (0 : Int32)))).1) ?_
    show Steps p.tables e below (s₁.setTop (mkF m 4 #[.val (.ref a1), .val (.int p2)] [])) _
    refine XS.iloadN X0.here hx rfl (hb hby d4_4) rfl ?_
    show Steps p.tables e below (s₁.setTop (mkF m 5 #[.val (.ref a1), .val (.int p2)] [(.int p2)])) _
    refine XS.bipush X0.here hx rfl (hb hby d4_5) ?_
    show Steps p.tables e below (s₁.setTop (mkF m 7 #[.val (.ref a1), .val (.int p2)] [(.int (100 : Int32)), (.int p2)])) _
    refine XS.icmpYes X0.here hx rfl (pc0 := 7) (pc' := 38) rfl (hb hby d4_7) rfl (flt (hs2 : ¬ ((100 : Int32) < p2))).2.2.2 (by decide) (by decide) ?_
    show Steps p.tables e below (s₁.setTop (mkF m 38 #[.val (.ref a1), .val (.int p2)] [])) _
    exact X0.returnOut hx Bd.returns (hb hby d4_38) hr
  · show Q4 Z a1 p2  h0 n0 _ s₁.heap _
    rw [e0]
    exact ⟨rfl, N0, rfl⟩

theorem d5_0 : decode prog_3_method_3_code 0 = .ok (.aload_n 0, 1) := by decide +kernel
theorem d5_1 : decode prog_3_method_3_code 1 = .ok (.getfield 17, 3) := by decide +kernel
theorem d5_4 : decode prog_3_method_3_code 4 = .ok (.aload_n 0, 1) := by decide +kernel
theorem d5_5 : decode prog_3_method_3_code 5 = .ok (.getfield 20, 3) := by decide +kernel
theorem d5_8 : decode prog_3_method_3_code 8 = .ok (.isub, 1) := by decide +kernel
theorem d5_9 : decode prog_3_method_3_code 9 = .ok (.bipush 100, 2) := by decide +kernel
theorem d5_11 : decode prog_3_method_3_code 11 = .ok (.iadd, 1) := by decide +kernel
theorem d5_12 : decode prog_3_method_3_code 12 = .ok (.ireturn, 1) := by decide +kernel
theorem ef_5 (m : MethodId) (x0 : Addr) : entryFrame m #[(.ref x0)] 1 = mkF m 0 #[.val (.ref x0)] [] := by first | (simp [entryFrame, mkF, argsToLocals, Value.category]; done) | rfl
def Q5 (Z : State) (a1 : Addr) (w1 : Int32) (w2 : Int32) (h0 : Heap) (n0 : Nat) (v : Option Value) (h : Heap) (L : List Loc) : Prop := v = some (.int (own_rank w1 w2)) ∧ Fr n0 L ∧ h = h0
set_option maxRecDepth 65536 in
set_option maxHeartbeats 40000000 in
theorem rm5 (l : Launch) (Z : State) (a0 : Array Value) (hw : ∀ d ∈ tables_1, d.before a0 Z = true) (ws : List Jvm.Cond) (a1 : Addr) (w1 : Int32) (w2 : Int32) (h0 : Heap) (n0 : Nat) (Z0 : n0 ≤ h0.size) (F_u : Fld Z h0 a1 "com/example/equate/equate/VoteRank" "thumbsUp" "I" (.int w1)) (F_d : Fld Z h0 a1 "com/example/equate/equate/VoteRank" "thumbsDown" "I" (.int w2)) :
    MetFree l (⟨"com/example/equate/equate/VoteRank", "rank", "()I"⟩ : MethodName) (head1 (Jvm.Cond.code (⟨"com/example/equate/equate/VoteRank", "rank", "()I"⟩ : MethodName) prog_3_method_3_code 1 (some .int) :: ws) ({ frames := 0, cells := 0, slots := 0, locals := 0 } : Room)) (fun a U => a = #[(.ref a1)] ∧ Z.Warmed39 U.vm ∧ U.heap = h0) (fun _ _ _ _ _ => True) (fun _ U o U' => ∃ v L, o = .returned v ∧ Q5 Z a1 w1 w2 h0 n0 v U'.heap L ∧ FrameEnd U o U' L ({ frames := 0, cells := 0, slots := 0, locals := 0 } : Room).cells ({ frames := 0, cells := 0, slots := 0, locals := 0 } : Room).slots) := by
  refine MetFree.of_bodySF (plainFor_of_name pn_2) hisR ?_
  intro p e s m args below meth c s₁ Bd hml0 hP hK
  obtain ⟨rfl, hZ, hh⟩ := hP
  have hx := Bd.exec
  have hby := Bd.bytes
  have hml : c.maxLocals = 1 := hml0
  have hown : s.vm.findClass "com/example/equate/equate/VoteRank" = some m.cls := findClass_of_methodNamed Bd.named
  have hnm := (name_of_methodNamed Bd.named Bd.method).1
  have X0 : Stand p l e ({ frames := 0, cells := 0, slots := 0, locals := 0 } : Room) s m #[(.ref a1)] below meth c s₁ [] 0 0 := Stand.of_body Bd
  have e0 : s₁.heap = h0 := by rw [← hh, Bd.state]; rfl
  have N0 := Fr.nil n0
  have pre0 : ∀ t, Steps p.tables e below (s₁.setTop (mkF m 0 #[.val (.ref a1)] [])) t → Steps p.tables e below (s₁.setTop (entryFrame m #[(.ref a1)] 1)) t := fun t k => castTop (ef_5 m a1) k
  obtain ⟨T1, X1, e1, st1⟩ := getF X0 hx hZ hown (host := "") (Or.inl (hw _ (List.mem_of_getElem? (i := 27) rfl))) Via.refl e0 F_u (g := (mkF m 1 #[.val (.ref a1)] [(.ref a1)])) rfl rfl (hb hby d5_1)
  obtain ⟨T2, X2, e2, st2⟩ := getF X1 hx hZ hown (host := "") (Or.inl (hw _ (List.mem_of_getElem? (i := 29) rfl))) Via.refl e1 F_d (g := (mkF m 5 #[.val (.ref a1)] [(.ref a1), (.int w1)])) rfl rfl (hb hby d5_5)
  obtain ⟨fs, hr, hrun, hended, hW, hsame⟩ := X2.leave (v := some (.int ((w1 - w2) + (100 : Int32)))) (fun h => by rw [Bd.returns] at h; cases h)
  refine ⟨_, _, pre0 _ ?_, hrun, hended, _, _, rfl, ?_, ⟨_, rfl⟩, hW, hsame.mono (by decide) (by decide)⟩
  · show Steps p.tables e below (s₁.setTop (mkF m 0 #[.val (.ref a1)] [])) _
    refine XS.aloadN X0.here hx rfl (hb hby d5_0) rfl rfl ?_
    show Steps p.tables e below (s₁.setTop (mkF m 1 #[.val (.ref a1)] [(.ref a1)])) _
    refine st1 _ ?_
    show Steps p.tables e below (T1.setTop (mkF m 4 #[.val (.ref a1)] [(.int w1)])) _
    refine XS.aloadN X1.here hx rfl (hb hby d5_4) rfl rfl ?_
    show Steps p.tables e below (T1.setTop (mkF m 5 #[.val (.ref a1)] [(.ref a1), (.int w1)])) _
    refine st2 _ ?_
    show Steps p.tables e below (T2.setTop (mkF m 8 #[.val (.ref a1)] [(.int w2), (.int w1)])) _
    refine XS.isub X2.here hx rfl (hb hby d5_8) rfl ?_
    show Steps p.tables e below (T2.setTop (mkF m 9 #[.val (.ref a1)] [(.int (w1 - w2))])) _
    refine XS.bipush X2.here hx rfl (hb hby d5_9) ?_
    show Steps p.tables e below (T2.setTop (mkF m 11 #[.val (.ref a1)] [(.int (100 : Int32)), (.int (w1 - w2))])) _
    refine XS.iadd X2.here hx rfl (hb hby d5_11) rfl ?_
    show Steps p.tables e below (T2.setTop (mkF m 12 #[.val (.ref a1)] [(.int ((w1 - w2) + (100 : Int32)))])) _
    exact retI X2 hx Bd.returns (hb hby d5_12) hr
  · show Q5 Z a1 w1 w2 h0 n0 _ T2.heap _
    rw [e2]
    exact ⟨rfl, N0, rfl⟩

theorem d1_0 : decode prog_3_method_1_code 0 = .ok (.aload_n 0, 1) := by decide +kernel
theorem pd_0 : parseMethodDescriptor "()V" = some ⟨[], none⟩ := by decide +kernel
theorem d1_1 : decode prog_3_method_1_code 1 = .ok (.invokespecial 1, 3) := by decide +kernel
theorem d1_4 : decode prog_3_method_1_code 4 = .ok (.ldc 7, 2) := by decide +kernel
theorem d1_6 : decode prog_3_method_1_code 6 = .ok (.iload_n 1, 1) := by decide +kernel
theorem pd_1 : parseMethodDescriptor "(Ljava/lang/String;I)V" = some ⟨[(.object "java/lang/String"), .int], none⟩ := by decide +kernel
theorem d1_7 : decode prog_3_method_1_code 7 = .ok (.invokestatic 9, 3) := by decide +kernel
theorem d1_10 : decode prog_3_method_1_code 10 = .ok (.ldc 15, 2) := by decide +kernel
theorem d1_12 : decode prog_3_method_1_code 12 = .ok (.iload_n 2, 1) := by decide +kernel
theorem d1_13 : decode prog_3_method_1_code 13 = .ok (.invokestatic 9, 3) := by decide +kernel
theorem d1_16 : decode prog_3_method_1_code 16 = .ok (.aload_n 0, 1) := by decide +kernel
theorem d1_17 : decode prog_3_method_1_code 17 = .ok (.iload_n 1, 1) := by decide +kernel
theorem d1_18 : decode prog_3_method_1_code 18 = .ok (.putfield 17, 3) := by decide +kernel
theorem d1_21 : decode prog_3_method_1_code 21 = .ok (.aload_n 0, 1) := by decide +kernel
theorem d1_22 : decode prog_3_method_1_code 22 = .ok (.iload_n 2, 1) := by decide +kernel
theorem d1_23 : decode prog_3_method_1_code 23 = .ok (.putfield 20, 3) := by decide +kernel
theorem d1_26 : decode prog_3_method_1_code 26 = .ok (.return_, 1) := by decide +kernel
theorem ef_1c (m : MethodId) (x0 : Addr) (x1 : Int32) (x2 : Int32) : entryFrame m #[(.ref x0), (.int x1), (.int x2)] 3 = mkF m 0 #[.val (.ref x0), .val (.int x1), .val (.int x2)] [] := by first | (simp [entryFrame, mkF, argsToLocals, Value.category]; done) | rfl
def Q1c (Z : State) (a1 : Addr) (p2 : Int32) (p3 : Int32) (u0 : Value) (u1 : Value) (h0 : Heap) (n0 : Nat) (v : Option Value) (h : Heap) (L : List Loc) : Prop := v = none ∧ Fr n0 L ∧ Keep h0 h [a1] ∧ Exa Z h a1 "com/example/equate/equate/VoteRank" ∧ Fld Z h a1 "com/example/equate/equate/VoteRank" "thumbsUp" "I" (.int p2) ∧ Fld Z h a1 "com/example/equate/equate/VoteRank" "thumbsDown" "I" (.int p3)
set_option maxRecDepth 65536 in
set_option maxHeartbeats 40000000 in
theorem rm1c (l : Launch) (Z : State) (a0 : Array Value) (hw : ∀ d ∈ tables_1, d.before a0 Z = true) (ws : List Jvm.Cond) (a1 : Addr) (p2 : Int32) (p3 : Int32) (u0 : Value) (u1 : Value) (h0 : Heap) (n0 : Nat) (Z0 : n0 ≤ h0.size) (g_a1 : n0 ≤ a1) (E_a1 : Exa Z h0 a1 "com/example/equate/equate/VoteRank") (F_u : Fld Z h0 a1 "com/example/equate/equate/VoteRank" "thumbsUp" "I" u0) (F_d : Fld Z h0 a1 "com/example/equate/equate/VoteRank" "thumbsDown" "I" u1) (hs1 : ¬ p2 < (0 : Int32)) (hs2 : ¬ (100 : Int32) < p2) (ht1 : ¬ p3 < (0 : Int32)) (ht2 : ¬ (100 : Int32) < p3) :
    MetFree l (⟨"com/example/equate/equate/VoteRank", "<init>", "(II)V"⟩ : MethodName) (head1 (Jvm.Cond.code (⟨"com/example/equate/equate/VoteRank", "<init>", "(II)V"⟩ : MethodName) prog_3_method_1_code 3 none :: ws) ({ frames := 2, cells := 4, slots := 80, locals := 24 } : Room)) (fun a U => a = #[(.ref a1), (.int p2), (.int p3)] ∧ Z.Warmed39 U.vm ∧ U.heap = h0) (fun _ _ _ _ _ => True) (fun _ U o U' => ∃ v L, o = .returned v ∧ (Q1c Z a1 p2 p3 u0 u1 h0 n0 v U'.heap L ∧ own_Lits U') ∧ ReturnedEndW U o U' L ({ frames := 2, cells := 4, slots := 80, locals := 24 } : Room).cells ({ frames := 2, cells := 4, slots := 80, locals := 24 } : Room).slots) := by
  refine MetFree.of_bodySF (plainFor_of_name pn_2) hisR ?_
  intro p e s m args below meth c s₁ Bd hml0 hP hK
  obtain ⟨rfl, hZ, hh⟩ := hP
  have hx := Bd.exec
  have hby := Bd.bytes
  have hml : c.maxLocals = 3 := hml0
  have hown : s.vm.findClass "com/example/equate/equate/VoteRank" = some m.cls := findClass_of_methodNamed Bd.named
  have hnm := (name_of_methodNamed Bd.named Bd.method).1
  have X0 : Stand p l e ({ frames := 2, cells := 4, slots := 80, locals := 24 } : Room) s m #[(.ref a1), (.int p2), (.int p3)] below meth c s₁ [] 0 0 := Stand.of_body Bd
  have e0 : s₁.heap = h0 := by rw [← hh, Bd.state]; rfl
  have N0 := Fr.nil n0
  have pre0 : ∀ t, Steps p.tables e below (s₁.setTop (mkF m 0 #[.val (.ref a1), .val (.int p2), .val (.int p3)] [])) t → Steps p.tables e below (s₁.setTop (entryFrame m #[(.ref a1), (.int p2), (.int p3)] 3)) t := fun t k => castTop (ef_1c m a1 p2 p3) k
  obtain ⟨_, _, ⟨T1, L1, k1, n1⟩, -, X1, ⟨Lc1, hQ1, l1, y1, z1⟩, st1⟩ := X0.specialBack hx (y := (⟨"java/lang/Record", "<init>", "()V"⟩ : MethodName)) rfl hown (mvT hZ (hw _ (List.mem_of_getElem? (i := 7) rfl))) (mvT hZ (hw _ (List.mem_of_getElem? (i := 8) rfl))) (mvT hZ (hw _ (List.mem_of_getElem? (i := 11) rfl))) (by decide) (backOf (W := 0) (rm2 l Z a0 hw [] a1 h0 n0 Z0) hZ (hw _ (List.mem_of_getElem? (i := 11) rfl)) (hw _ (List.mem_of_getElem? (i := 10) rfl)) (by decide) (by decide)) (g := (mkF m 1 #[.val (.ref a1), .val (.int p2), .val (.int p3)] [(.ref a1)])) rfl (by rw [hml]; rfl) (Steps.refl _) (a := a1) (argsL := []) (rest := []) (lenOf pd_0 rfl) rfl (by show 2 * 0 + _ ≤ _; exact Nat.le_of_eq rfl) (hb hby d1_1) (fun _ _ => ⟨rfl, e0, (by decide : 0 + 0 ≤ _), (by decide : 0 + 0 ≤ _)⟩)
  dsimp only [Pt.U, Pt.locs, Pt.cells, Pt.slots] at X1 l1 y1 z1 st1 hQ1
  subst l1 y1 z1
  obtain ⟨rfl, N1q, e1⟩ := hQ1
  have N1 := Fr.app N0 N1q
  obtain ⟨x2, T2, h2, X2, e2, E2, S2, hZ, hown, Lt2, st2⟩ := own_ldc X1 hx hZ hown (hw _ (List.mem_of_getElem? (i := 15) rfl)) (hw _ (List.mem_of_getElem? (i := 16) rfl)) (hw _ (List.mem_of_getElem? (i := 17) rfl)) (hw _ (List.mem_of_getElem? (i := 18) rfl)) (hw _ (List.mem_of_getElem? (i := 19) rfl)) (hw _ (List.mem_of_getElem? (i := 20) rfl)) (hw _ (List.mem_of_getElem? (i := 21) rfl)) (hw _ (List.mem_of_getElem? (i := 22) rfl)) e1 (g := (mkF m 4 #[.val (.ref a1), .val (.int p2), .val (.int p3)] [])) rfl (hb hby d1_4) (n := 32) (by decide) (by decide) (by decide) (by decide)
  have E_a1_h2 := (E_a1.ext E2)
  have F_u_h2 := (F_u.ext E2)
  have F_d_h2 := (F_d.ext E2)
  have Z2 := (Nat.le_trans Z0 E2.1)
  have KK2 := (Keep.refl h0 [a1]).ext E2
  obtain ⟨_, _, ⟨T3, L3, k3, n3⟩, -, X3, ⟨Lc3, hQ3, l3, y3, z3⟩, st3⟩ := Jvm.LawKit.callS X2 hx (y := (⟨"com/example/equate/equate/VoteRank", "requirePercentage", "(Ljava/lang/String;I)V"⟩ : MethodName)) hown (mvT hZ (hw _ (List.mem_of_getElem? (i := 23) rfl))) (mvT hZ (hw _ (List.mem_of_getElem? (i := 24) rfl))) (mvT hZ (hw _ (List.mem_of_getElem? (i := 3) rfl))) (mvT hZ (hw _ (List.mem_of_getElem? (i := 25) rfl))) (by decide) (backOf (W := 0) (rm4 l Z a0 hw [] x2 p2 h2 n0 Z2 hs1 hs2) hZ (hw _ (List.mem_of_getElem? (i := 25) rfl)) (hw _ (List.mem_of_getElem? (i := 3) rfl)) (by decide) (by decide)) (g := (mkF m 7 #[.val (.ref a1), .val (.int p2), .val (.int p3)] [(.int p2), (.ref x2)])) rfl (by rw [hml]; rfl) (argsL := [(.ref x2), (.int p2)]) (rest := []) (lenOf pd_1 rfl) rfl (by show 2 * 0 + _ ≤ _; exact Nat.le_of_eq rfl) (hb hby d1_7) (fun _ _ => ⟨rfl, e2, (by decide : 2 + 0 ≤ _), (by decide : 36 + 0 ≤ _)⟩)
  dsimp only [Pt.U, Pt.locs, Pt.cells, Pt.slots] at X3 l3 y3 z3 st3 hQ3
  subst l3 y3 z3
  obtain ⟨rfl, N3q, e3⟩ := hQ3
  have N3 := Fr.app N1 N3q
  obtain ⟨x4, T4, h4, X4, e4, E4, S4, hZ, hown, Lt4, st4⟩ := own_ldc X3 hx hZ hown (hw _ (List.mem_of_getElem? (i := 26) rfl)) (hw _ (List.mem_of_getElem? (i := 16) rfl)) (hw _ (List.mem_of_getElem? (i := 17) rfl)) (hw _ (List.mem_of_getElem? (i := 18) rfl)) (hw _ (List.mem_of_getElem? (i := 19) rfl)) (hw _ (List.mem_of_getElem? (i := 20) rfl)) (hw _ (List.mem_of_getElem? (i := 21) rfl)) (hw _ (List.mem_of_getElem? (i := 22) rfl)) e3 (g := (mkF m 10 #[.val (.ref a1), .val (.int p2), .val (.int p3)] [])) rfl (hb hby d1_10) (n := 40) (by decide) (by decide) (by decide) (by decide)
  have E_a1_h4 := (E_a1_h2.ext E4)
  have F_u_h4 := (F_u_h2.ext E4)
  have F_d_h4 := (F_d_h2.ext E4)
  have Z4 := (Nat.le_trans Z2 E4.1)
  have KK4 := KK2.ext E4
  have S4' : s.Since T4.vm h4.size := S2.trans S4 (E4.1)
  have Lu := own_stays Lt2 S4.1
  obtain ⟨_, _, ⟨T5, L5, k5, n5⟩, -, X5, ⟨Lc5, hQ5, l5, y5, z5⟩, st5⟩ := Jvm.LawKit.callS X4 hx (y := (⟨"com/example/equate/equate/VoteRank", "requirePercentage", "(Ljava/lang/String;I)V"⟩ : MethodName)) hown (mvT hZ (hw _ (List.mem_of_getElem? (i := 23) rfl))) (mvT hZ (hw _ (List.mem_of_getElem? (i := 24) rfl))) (mvT hZ (hw _ (List.mem_of_getElem? (i := 3) rfl))) (mvT hZ (hw _ (List.mem_of_getElem? (i := 25) rfl))) (by decide) (backOf (W := 0) (rm4 l Z a0 hw [] x4 p3 h4 n0 Z4 ht1 ht2) hZ (hw _ (List.mem_of_getElem? (i := 25) rfl)) (hw _ (List.mem_of_getElem? (i := 3) rfl)) (by decide) (by decide)) (g := (mkF m 13 #[.val (.ref a1), .val (.int p2), .val (.int p3)] [(.int p3), (.ref x4)])) rfl (by rw [hml]; rfl) (argsL := [(.ref x4), (.int p3)]) (rest := []) (lenOf pd_1 rfl) rfl (by show 2 * 0 + _ ≤ _; exact Nat.le_of_eq rfl) (hb hby d1_13) (fun _ _ => ⟨rfl, e4, (by decide : 4 + 0 ≤ _), (by decide : 80 + 0 ≤ _)⟩)
  dsimp only [Pt.U, Pt.locs, Pt.cells, Pt.slots] at X5 l5 y5 z5 st5 hQ5
  subst l5 y5 z5
  obtain ⟨rfl, N5q, e5⟩ := hQ5
  have N5 := Fr.app N3 N5q
  obtain ⟨T6, h6, X6, e6, W6, st6⟩ := putF X5 hx hZ hown (host := "") (Or.inl (hw _ (List.mem_of_getElem? (i := 27) rfl))) Via.refl e5 F_u_h4 E_a1_h4 (Or.inr ⟨(hw _ (List.mem_of_getElem? (i := 28) rfl)), rfl, hnm⟩) (hw _ (List.mem_of_getElem? (i := 2) rfl)) (ty := .int) (by decide) rfl rfl (g := (mkF m 18 #[.val (.ref a1), .val (.int p2), .val (.int p3)] [(.int p2), (.ref a1)])) rfl rfl (hb hby d1_18)
  have Fw6 := F_u_h4.same W6
  have E_a1_h6 := (E_a1_h4.wr W6)
  have F_d_h6 := (F_d_h4.other W6 (Or.inr (slot_ne (Or.inr (hw _ (List.mem_of_getElem? (i := 30) rfl))) (Or.inr (hw _ (List.mem_of_getElem? (i := 28) rfl))) (by decide) (t := .int) (t' := .int) (by decide) (by decide))))
  have Z6 := (Nat.le_trans Z4 (Keep.of_wr W6).1)
  have KK6 := KK4.wr W6 (Or.inl (by simp))
  have N6 := Fr.snoc X6 N5 g_a1
  obtain ⟨T7, h7, X7, e7, W7, st7⟩ := putF X6 hx hZ hown (host := "") (Or.inl (hw _ (List.mem_of_getElem? (i := 29) rfl))) Via.refl e6 F_d_h6 E_a1_h6 (Or.inr ⟨(hw _ (List.mem_of_getElem? (i := 30) rfl)), rfl, hnm⟩) (hw _ (List.mem_of_getElem? (i := 2) rfl)) (ty := .int) (by decide) rfl rfl (g := (mkF m 23 #[.val (.ref a1), .val (.int p2), .val (.int p3)] [(.int p3), (.ref a1)])) rfl rfl (hb hby d1_23)
  have Fw7 := F_d_h6.same W7
  have E_a1_h7 := (E_a1_h6.wr W7)
  have Fw6_h7 := (Fw6.other W7 (Or.inr (slot_ne (Or.inr (hw _ (List.mem_of_getElem? (i := 28) rfl))) (Or.inr (hw _ (List.mem_of_getElem? (i := 30) rfl))) (by decide) (t := .int) (t' := .int) (by decide) (by decide))))
  have Z7 := (Nat.le_trans Z6 (Keep.of_wr W7).1)
  have KK7 := KK6.wr W7 (Or.inl (by simp))
  have N7 := Fr.snoc X7 N6 g_a1
  have hsz : h4.size ≤ T7.heap.size := by rw [e7]; exact Nat.le_trans (Keep.of_wr W6).1 (Keep.of_wr W7).1
  obtain ⟨fs, hr, hrun, hended, hRW⟩ := Stand.leaveW (s := s) (vm₁ := T4.vm) X7 S4' hsz (v := none) (fun _ => rfl)
  refine ⟨_, _, pre0 _ ?_, hrun, hended, _, _, rfl, ⟨?_, ⟨x2, x4, own_stays Lu X7.warmed.wide, own_stays Lt4 X7.warmed.wide⟩⟩, hRW.1, hRW.2.1, hRW.2.2.1, hRW.2.2.2.mono (by decide) (by decide)⟩
  · show Steps p.tables e below (s₁.setTop (mkF m 0 #[.val (.ref a1), .val (.int p2), .val (.int p3)] [])) _
    refine XS.aloadN X0.here hx rfl (hb hby d1_0) rfl rfl ?_
    show Steps p.tables e below (s₁.setTop (mkF m 1 #[.val (.ref a1), .val (.int p2), .val (.int p3)] [(.ref a1)])) _
    refine st1.trans ?_
    show Steps p.tables e below (T1.setTop (mkF m 4 #[.val (.ref a1), .val (.int p2), .val (.int p3)] [])) _
    refine st2 _ ?_
    show Steps p.tables e below (T2.setTop (mkF m 6 #[.val (.ref a1), .val (.int p2), .val (.int p3)] [(.ref x2)])) _
    refine XS.iloadN X2.here hx rfl (hb hby d1_6) rfl ?_
    show Steps p.tables e below (T2.setTop (mkF m 7 #[.val (.ref a1), .val (.int p2), .val (.int p3)] [(.int p2), (.ref x2)])) _
    refine st3 _ ?_
    show Steps p.tables e below (T3.setTop (mkF m 10 #[.val (.ref a1), .val (.int p2), .val (.int p3)] [])) _
    refine st4 _ ?_
    show Steps p.tables e below (T4.setTop (mkF m 12 #[.val (.ref a1), .val (.int p2), .val (.int p3)] [(.ref x4)])) _
    refine XS.iloadN X4.here hx rfl (hb hby d1_12) rfl ?_
    show Steps p.tables e below (T4.setTop (mkF m 13 #[.val (.ref a1), .val (.int p2), .val (.int p3)] [(.int p3), (.ref x4)])) _
    refine st5 _ ?_
    show Steps p.tables e below (T5.setTop (mkF m 16 #[.val (.ref a1), .val (.int p2), .val (.int p3)] [])) _
    refine XS.aloadN X5.here hx rfl (hb hby d1_16) rfl rfl ?_
    show Steps p.tables e below (T5.setTop (mkF m 17 #[.val (.ref a1), .val (.int p2), .val (.int p3)] [(.ref a1)])) _
    refine XS.iloadN X5.here hx rfl (hb hby d1_17) rfl ?_
    show Steps p.tables e below (T5.setTop (mkF m 18 #[.val (.ref a1), .val (.int p2), .val (.int p3)] [(.int p2), (.ref a1)])) _
    refine st6 _ ?_
    show Steps p.tables e below (T6.setTop (mkF m 21 #[.val (.ref a1), .val (.int p2), .val (.int p3)] [])) _
    refine XS.aloadN X6.here hx rfl (hb hby d1_21) rfl rfl ?_
    show Steps p.tables e below (T6.setTop (mkF m 22 #[.val (.ref a1), .val (.int p2), .val (.int p3)] [(.ref a1)])) _
    refine XS.iloadN X6.here hx rfl (hb hby d1_22) rfl ?_
    show Steps p.tables e below (T6.setTop (mkF m 23 #[.val (.ref a1), .val (.int p2), .val (.int p3)] [(.int p3), (.ref a1)])) _
    refine st7 _ ?_
    show Steps p.tables e below (T7.setTop (mkF m 26 #[.val (.ref a1), .val (.int p2), .val (.int p3)] [])) _
    exact X7.returnOut hx Bd.returns (hb hby d1_26) hr
  · show Q1c Z a1 p2 p3 u0 u1 h0 n0 _ T7.heap _
    rw [e7]
    exact ⟨rfl, N7, KK7, E_a1_h7, Fw6_h7, Fw7⟩

theorem ef_1w (m : MethodId) (x0 : Addr) (x1 : Int32) (x2 : Int32) : entryFrame m #[(.ref x0), (.int x1), (.int x2)] 3 = mkF m 0 #[.val (.ref x0), .val (.int x1), .val (.int x2)] [] := by first | (simp [entryFrame, mkF, argsToLocals, Value.category]; done) | rfl
def Q1w (Z : State) (a1 : Addr) (p2 : Int32) (p3 : Int32) (u0 : Value) (u1 : Value) (y1 : Addr) (y2 : Addr) (h0 : Heap) (n0 : Nat) (v : Option Value) (h : Heap) (L : List Loc) : Prop := v = none ∧ Fr n0 L ∧ Keep h0 h [a1] ∧ Exa Z h a1 "com/example/equate/equate/VoteRank" ∧ Fld Z h a1 "com/example/equate/equate/VoteRank" "thumbsUp" "I" (.int p2) ∧ Fld Z h a1 "com/example/equate/equate/VoteRank" "thumbsDown" "I" (.int p3)
set_option maxRecDepth 65536 in
set_option maxHeartbeats 40000000 in
theorem rm1w (l : Launch) (Z : State) (a0 : Array Value) (hw : ∀ d ∈ tables_1, d.before a0 Z = true) (ws : List Jvm.Cond) (a1 : Addr) (p2 : Int32) (p3 : Int32) (u0 : Value) (u1 : Value) (y1 : Addr) (y2 : Addr) (h0 : Heap) (n0 : Nat) (Z0 : n0 ≤ h0.size) (g_a1 : n0 ≤ a1) (E_a1 : Exa Z h0 a1 "com/example/equate/equate/VoteRank") (F_u : Fld Z h0 a1 "com/example/equate/equate/VoteRank" "thumbsUp" "I" u0) (F_d : Fld Z h0 a1 "com/example/equate/equate/VoteRank" "thumbsDown" "I" u1) (hs1 : ¬ p2 < (0 : Int32)) (hs2 : ¬ (100 : Int32) < p2) (ht1 : ¬ p3 < (0 : Int32)) (ht2 : ¬ (100 : Int32) < p3) (Ly1 : Lit Z "com/example/equate/equate/VoteRank" 7 y1) (Ly2 : Lit Z "com/example/equate/equate/VoteRank" 15 y2) :
    MetFree l (⟨"com/example/equate/equate/VoteRank", "<init>", "(II)V"⟩ : MethodName) (head1 (Jvm.Cond.code (⟨"com/example/equate/equate/VoteRank", "<init>", "(II)V"⟩ : MethodName) prog_3_method_1_code 3 none :: ws) ({ frames := 2, cells := 0, slots := 0, locals := 24 } : Room)) (fun a U => a = #[(.ref a1), (.int p2), (.int p3)] ∧ Z.Warmed39 U.vm ∧ U.heap = h0) (fun _ _ _ _ _ => True) (fun _ U o U' => ∃ v L, o = .returned v ∧ Q1w Z a1 p2 p3 u0 u1 y1 y2 h0 n0 v U'.heap L ∧ FrameEnd U o U' L ({ frames := 2, cells := 0, slots := 0, locals := 24 } : Room).cells ({ frames := 2, cells := 0, slots := 0, locals := 24 } : Room).slots) := by
  refine MetFree.of_bodySF (plainFor_of_name pn_2) hisR ?_
  intro p e s m args below meth c s₁ Bd hml0 hP hK
  obtain ⟨rfl, hZ, hh⟩ := hP
  have hx := Bd.exec
  have hby := Bd.bytes
  have hml : c.maxLocals = 3 := hml0
  have hown : s.vm.findClass "com/example/equate/equate/VoteRank" = some m.cls := findClass_of_methodNamed Bd.named
  have hnm := (name_of_methodNamed Bd.named Bd.method).1
  have X0 : Stand p l e ({ frames := 2, cells := 0, slots := 0, locals := 24 } : Room) s m #[(.ref a1), (.int p2), (.int p3)] below meth c s₁ [] 0 0 := Stand.of_body Bd
  have e0 : s₁.heap = h0 := by rw [← hh, Bd.state]; rfl
  have N0 := Fr.nil n0
  have pre0 : ∀ t, Steps p.tables e below (s₁.setTop (mkF m 0 #[.val (.ref a1), .val (.int p2), .val (.int p3)] [])) t → Steps p.tables e below (s₁.setTop (entryFrame m #[(.ref a1), (.int p2), (.int p3)] 3)) t := fun t k => castTop (ef_1w m a1 p2 p3) k
  obtain ⟨_, _, ⟨T1, L1, k1, n1⟩, -, X1, ⟨Lc1, hQ1, l1, y1, z1⟩, st1⟩ := X0.specialBack hx (y := (⟨"java/lang/Record", "<init>", "()V"⟩ : MethodName)) rfl hown (mvT hZ (hw _ (List.mem_of_getElem? (i := 7) rfl))) (mvT hZ (hw _ (List.mem_of_getElem? (i := 8) rfl))) (mvT hZ (hw _ (List.mem_of_getElem? (i := 11) rfl))) (by decide) (backOf (W := 0) (rm2 l Z a0 hw [] a1 h0 n0 Z0) hZ (hw _ (List.mem_of_getElem? (i := 11) rfl)) (hw _ (List.mem_of_getElem? (i := 10) rfl)) (by decide) (by decide)) (g := (mkF m 1 #[.val (.ref a1), .val (.int p2), .val (.int p3)] [(.ref a1)])) rfl (by rw [hml]; rfl) (Steps.refl _) (a := a1) (argsL := []) (rest := []) (lenOf pd_0 rfl) rfl (by show 2 * 0 + _ ≤ _; exact Nat.le_of_eq rfl) (hb hby d1_1) (fun _ _ => ⟨rfl, e0, (by decide : 0 + 0 ≤ _), (by decide : 0 + 0 ≤ _)⟩)
  dsimp only [Pt.U, Pt.locs, Pt.cells, Pt.slots] at X1 l1 y1 z1 st1 hQ1
  subst l1 y1 z1
  obtain ⟨rfl, N1q, e1⟩ := hQ1
  have N1 := Fr.app N0 N1q
  obtain ⟨_, _, ⟨T2, L2, k2, n2⟩, -, X2, ⟨Lc2, hQ2, l2, y2, z2⟩, st2⟩ := Jvm.LawKit.callS X1 hx (y := (⟨"com/example/equate/equate/VoteRank", "requirePercentage", "(Ljava/lang/String;I)V"⟩ : MethodName)) hown (mvT hZ (hw _ (List.mem_of_getElem? (i := 23) rfl))) (mvT hZ (hw _ (List.mem_of_getElem? (i := 24) rfl))) (mvT hZ (hw _ (List.mem_of_getElem? (i := 3) rfl))) (mvT hZ (hw _ (List.mem_of_getElem? (i := 25) rfl))) (by decide) (backOf (W := 0) (rm4 l Z a0 hw [] y1 p2 h0 n0 Z0 hs1 hs2) hZ (hw _ (List.mem_of_getElem? (i := 25) rfl)) (hw _ (List.mem_of_getElem? (i := 3) rfl)) (by decide) (by decide)) (g := (mkF m 7 #[.val (.ref a1), .val (.int p2), .val (.int p3)] [(.int p2), (.ref y1)])) rfl (by rw [hml]; rfl) (argsL := [(.ref y1), (.int p2)]) (rest := []) (lenOf pd_1 rfl) rfl (by show 2 * 0 + _ ≤ _; exact Nat.le_of_eq rfl) (hb hby d1_7) (fun _ _ => ⟨rfl, e1, (by decide : 0 + 0 ≤ _), (by decide : 0 + 0 ≤ _)⟩)
  dsimp only [Pt.U, Pt.locs, Pt.cells, Pt.slots] at X2 l2 y2 z2 st2 hQ2
  subst l2 y2 z2
  obtain ⟨rfl, N2q, e2⟩ := hQ2
  have N2 := Fr.app N1 N2q
  obtain ⟨_, _, ⟨T3, L3, k3, n3⟩, -, X3, ⟨Lc3, hQ3, l3, y3, z3⟩, st3⟩ := Jvm.LawKit.callS X2 hx (y := (⟨"com/example/equate/equate/VoteRank", "requirePercentage", "(Ljava/lang/String;I)V"⟩ : MethodName)) hown (mvT hZ (hw _ (List.mem_of_getElem? (i := 23) rfl))) (mvT hZ (hw _ (List.mem_of_getElem? (i := 24) rfl))) (mvT hZ (hw _ (List.mem_of_getElem? (i := 3) rfl))) (mvT hZ (hw _ (List.mem_of_getElem? (i := 25) rfl))) (by decide) (backOf (W := 0) (rm4 l Z a0 hw [] y2 p3 h0 n0 Z0 ht1 ht2) hZ (hw _ (List.mem_of_getElem? (i := 25) rfl)) (hw _ (List.mem_of_getElem? (i := 3) rfl)) (by decide) (by decide)) (g := (mkF m 13 #[.val (.ref a1), .val (.int p2), .val (.int p3)] [(.int p3), (.ref y2)])) rfl (by rw [hml]; rfl) (argsL := [(.ref y2), (.int p3)]) (rest := []) (lenOf pd_1 rfl) rfl (by show 2 * 0 + _ ≤ _; exact Nat.le_of_eq rfl) (hb hby d1_13) (fun _ _ => ⟨rfl, e2, (by decide : 0 + 0 ≤ _), (by decide : 0 + 0 ≤ _)⟩)
  dsimp only [Pt.U, Pt.locs, Pt.cells, Pt.slots] at X3 l3 y3 z3 st3 hQ3
  subst l3 y3 z3
  obtain ⟨rfl, N3q, e3⟩ := hQ3
  have N3 := Fr.app N2 N3q
  obtain ⟨T4, h4, X4, e4, W4, st4⟩ := putF X3 hx hZ hown (host := "") (Or.inl (hw _ (List.mem_of_getElem? (i := 27) rfl))) Via.refl e3 F_u E_a1 (Or.inr ⟨(hw _ (List.mem_of_getElem? (i := 28) rfl)), rfl, hnm⟩) (hw _ (List.mem_of_getElem? (i := 2) rfl)) (ty := .int) (by decide) rfl rfl (g := (mkF m 18 #[.val (.ref a1), .val (.int p2), .val (.int p3)] [(.int p2), (.ref a1)])) rfl rfl (hb hby d1_18)
  have Fw4 := F_u.same W4
  have E_a1_h4 := (E_a1.wr W4)
  have F_d_h4 := (F_d.other W4 (Or.inr (slot_ne (Or.inr (hw _ (List.mem_of_getElem? (i := 30) rfl))) (Or.inr (hw _ (List.mem_of_getElem? (i := 28) rfl))) (by decide) (t := .int) (t' := .int) (by decide) (by decide))))
  have Z4 := (Nat.le_trans Z0 (Keep.of_wr W4).1)
  have KK4 := (Keep.refl h0 [a1]).wr W4 (Or.inl (by simp))
  have N4 := Fr.snoc X4 N3 g_a1
  obtain ⟨T5, h5, X5, e5, W5, st5⟩ := putF X4 hx hZ hown (host := "") (Or.inl (hw _ (List.mem_of_getElem? (i := 29) rfl))) Via.refl e4 F_d_h4 E_a1_h4 (Or.inr ⟨(hw _ (List.mem_of_getElem? (i := 30) rfl)), rfl, hnm⟩) (hw _ (List.mem_of_getElem? (i := 2) rfl)) (ty := .int) (by decide) rfl rfl (g := (mkF m 23 #[.val (.ref a1), .val (.int p2), .val (.int p3)] [(.int p3), (.ref a1)])) rfl rfl (hb hby d1_23)
  have Fw5 := F_d_h4.same W5
  have E_a1_h5 := (E_a1_h4.wr W5)
  have Fw4_h5 := (Fw4.other W5 (Or.inr (slot_ne (Or.inr (hw _ (List.mem_of_getElem? (i := 28) rfl))) (Or.inr (hw _ (List.mem_of_getElem? (i := 30) rfl))) (by decide) (t := .int) (t' := .int) (by decide) (by decide))))
  have Z5 := (Nat.le_trans Z4 (Keep.of_wr W5).1)
  have KK5 := KK4.wr W5 (Or.inl (by simp))
  have N5 := Fr.snoc X5 N4 g_a1
  obtain ⟨fs, hr, hrun, hended, hW, hsame⟩ := X5.leave (v := none) (fun _ => rfl)
  refine ⟨_, _, pre0 _ ?_, hrun, hended, _, _, rfl, ?_, ⟨_, rfl⟩, hW, hsame.mono (by decide) (by decide)⟩
  · show Steps p.tables e below (s₁.setTop (mkF m 0 #[.val (.ref a1), .val (.int p2), .val (.int p3)] [])) _
    refine XS.aloadN X0.here hx rfl (hb hby d1_0) rfl rfl ?_
    show Steps p.tables e below (s₁.setTop (mkF m 1 #[.val (.ref a1), .val (.int p2), .val (.int p3)] [(.ref a1)])) _
    refine st1.trans ?_
    show Steps p.tables e below (T1.setTop (mkF m 4 #[.val (.ref a1), .val (.int p2), .val (.int p3)] [])) _
    refine ldcR X1 hx hZ hown (refOfLit (hw _ (List.mem_of_getElem? (i := 15) rfl)) Ly1) Ly1 (g := (mkF m 4 #[.val (.ref a1), .val (.int p2), .val (.int p3)] [])) rfl (hb hby d1_4) _ ?_
    show Steps p.tables e below (T1.setTop (mkF m 6 #[.val (.ref a1), .val (.int p2), .val (.int p3)] [(.ref y1)])) _
    refine XS.iloadN X1.here hx rfl (hb hby d1_6) rfl ?_
    show Steps p.tables e below (T1.setTop (mkF m 7 #[.val (.ref a1), .val (.int p2), .val (.int p3)] [(.int p2), (.ref y1)])) _
    refine st2 _ ?_
    show Steps p.tables e below (T2.setTop (mkF m 10 #[.val (.ref a1), .val (.int p2), .val (.int p3)] [])) _
    refine ldcR X2 hx hZ hown (refOfLit (hw _ (List.mem_of_getElem? (i := 26) rfl)) Ly2) Ly2 (g := (mkF m 10 #[.val (.ref a1), .val (.int p2), .val (.int p3)] [])) rfl (hb hby d1_10) _ ?_
    show Steps p.tables e below (T2.setTop (mkF m 12 #[.val (.ref a1), .val (.int p2), .val (.int p3)] [(.ref y2)])) _
    refine XS.iloadN X2.here hx rfl (hb hby d1_12) rfl ?_
    show Steps p.tables e below (T2.setTop (mkF m 13 #[.val (.ref a1), .val (.int p2), .val (.int p3)] [(.int p3), (.ref y2)])) _
    refine st3 _ ?_
    show Steps p.tables e below (T3.setTop (mkF m 16 #[.val (.ref a1), .val (.int p2), .val (.int p3)] [])) _
    refine XS.aloadN X3.here hx rfl (hb hby d1_16) rfl rfl ?_
    show Steps p.tables e below (T3.setTop (mkF m 17 #[.val (.ref a1), .val (.int p2), .val (.int p3)] [(.ref a1)])) _
    refine XS.iloadN X3.here hx rfl (hb hby d1_17) rfl ?_
    show Steps p.tables e below (T3.setTop (mkF m 18 #[.val (.ref a1), .val (.int p2), .val (.int p3)] [(.int p2), (.ref a1)])) _
    refine st4 _ ?_
    show Steps p.tables e below (T4.setTop (mkF m 21 #[.val (.ref a1), .val (.int p2), .val (.int p3)] [])) _
    refine XS.aloadN X4.here hx rfl (hb hby d1_21) rfl rfl ?_
    show Steps p.tables e below (T4.setTop (mkF m 22 #[.val (.ref a1), .val (.int p2), .val (.int p3)] [(.ref a1)])) _
    refine XS.iloadN X4.here hx rfl (hb hby d1_22) rfl ?_
    show Steps p.tables e below (T4.setTop (mkF m 23 #[.val (.ref a1), .val (.int p2), .val (.int p3)] [(.int p3), (.ref a1)])) _
    refine st5 _ ?_
    show Steps p.tables e below (T5.setTop (mkF m 26 #[.val (.ref a1), .val (.int p2), .val (.int p3)] [])) _
    exact X5.returnOut hx Bd.returns (hb hby d1_26) hr
  · show Q1w Z a1 p2 p3 u0 u1 y1 y2 h0 n0 _ T5.heap _
    rw [e5]
    exact ⟨rfl, N5, KK5, E_a1_h5, Fw4_h5, Fw5⟩

theorem pd_2 : parseMethodDescriptor "(II)V" = some ⟨[.int, .int], none⟩ := by decide +kernel
theorem pd_3 : parseMethodDescriptor "()I" = some ⟨[], some .int⟩ := by decide +kernel
theorem pn_3 : plainName "com/example/equate/equate/VoteRankRankPinLaw" = true := by first | (simp [plainName, overriddenIn]; done) | decide +kernel
theorem ef_0 (m : MethodId) (x0 : Int32) (x1 : Int32) : entryFrame m #[(.int x0), (.int x1)] maxLocals = mkF m 0 #[.val (.int x0), .val (.int x1), .unset, .unset, .unset, .unset, .unset, .unset, .unset, .unset, .unset, .unset, .unset, .unset, .unset, .unset, .unset, .unset] [] := by first | (simp [entryFrame, mkF, argsToLocals, Value.category, maxLocals]; done) | rfl
def Q0 (Z : State) (p1 : Int32) (p2 : Int32)  (h0 : Heap) (n0 : Nat) (v : Option Value) (h : Heap) (L : List Loc) : Prop := v = some (.int (1 : Int32)) ∧ Fr n0 L
set_option maxRecDepth 65536 in
set_option maxHeartbeats 40000000 in
theorem rm0 (l : Launch) (Z : State) (a0 : Array Value) (hw : ∀ d ∈ tables_1, d.before a0 Z = true) (ws : List Jvm.Cond) (p1 : Int32) (p2 : Int32)  (h0 : Heap) (n0 : Nat) (Z0 : n0 ≤ h0.size)  :
    MetFree l x (head1 (Jvm.Cond.code x code maxLocals ret :: ws) room_1) (fun a U => a = #[(.int p1), (.int p2)] ∧ Z.Warmed39 U.vm ∧ U.heap = h0) (fun _ _ _ _ _ => True) (fun _ U o U' => ∃ v L, o = .returned v ∧ Q0 Z p1 p2  h0 n0 v U'.heap L ∧ ReturnedEndW U o U' L room_1.cells room_1.slots) := by
  refine MetFree.of_bodySF (plainFor_of_name pn_3) hisR ?_
  intro p e s m args below meth c s₁ Bd hml0 hP hK
  obtain ⟨rfl, hZ, hh⟩ := hP
  have hx := Bd.exec
  have hby := Bd.bytes
  have hml : c.maxLocals = 18 := hml0
  have hown : s.vm.findClass "com/example/equate/equate/VoteRankRankPinLaw" = some m.cls := findClass_of_methodNamed Bd.named
  have hnm := (name_of_methodNamed Bd.named Bd.method).1
  have X0 : Stand p l e room_1 s m #[(.int p1), (.int p2)] below meth c s₁ [] 0 0 := Stand.of_body Bd
  have e0 : s₁.heap = h0 := by rw [← hh, Bd.state]; rfl
  have N0 := Fr.nil n0
  have pre0 : ∀ t, Steps p.tables e below (s₁.setTop (mkF m 0 #[.val (.int p1), .val (.int p2), .unset, .unset, .unset, .unset, .unset, .unset, .unset, .unset, .unset, .unset, .unset, .unset, .unset, .unset, .unset, .unset] [])) t → Steps p.tables e below (s₁.setTop (entryFrame m #[(.int p1), (.int p2)] maxLocals)) t := fun t k => castTop (ef_0 m p1 p2) k
  have hown1 := hown; have hZ1 := hZ; have hw1 := hw
  obtain ⟨uu, huu⟩ : ∃ z : Int32, z = ((p1 &&& (2147483647 : Int32)) % (101 : Int32)) := ⟨_, rfl⟩
  have stg_uu : ∀ t, Steps p.tables e below (s₁.setTop (mkF m 8 #[.val (.int p1), .val (.int p2), .val (.int uu), .unset, .unset, .unset, .unset, .unset, .unset, .unset, .unset, .unset, .unset, .unset, .unset, .unset, .unset, .unset] [])) t → Steps p.tables e below (s₁.setTop (mkF m 8 #[.val (.int p1), .val (.int p2), .val (.int ((p1 &&& (2147483647 : Int32)) % (101 : Int32))), .unset, .unset, .unset, .unset, .unset, .unset, .unset, .unset, .unset, .unset, .unset, .unset, .unset, .unset, .unset] [])) t := by subst huu; exact fun _ k => k
  obtain ⟨dd, hdd⟩ : ∃ z : Int32, z = ((p2 &&& (2147483647 : Int32)) % (101 : Int32)) := ⟨_, rfl⟩
  have stg_dd : ∀ t, Steps p.tables e below (s₁.setTop (mkF m 16 #[.val (.int p1), .val (.int p2), .val (.int uu), .val (.int dd), .unset, .unset, .unset, .unset, .unset, .unset, .unset, .unset, .unset, .unset, .unset, .unset, .unset, .unset] [])) t → Steps p.tables e below (s₁.setTop (mkF m 16 #[.val (.int p1), .val (.int p2), .val (.int uu), .val (.int ((p2 &&& (2147483647 : Int32)) % (101 : Int32))), .unset, .unset, .unset, .unset, .unset, .unset, .unset, .unset, .unset, .unset, .unset, .unset, .unset, .unset] [])) t := by subst hdd; exact fun _ k => k
  have gu := own_pct huu
  have gd := own_pct hdd
  obtain ⟨ku1, ku2⟩ := own_ok gu
  obtain ⟨kd1, kd2⟩ := own_ok gd
  obtain ⟨kz1, kz2⟩ := own_ok (by decide : 0 ≤ (0 : Int32).toInt ∧ (0 : Int32).toInt ≤ 100)
  obtain ⟨v1, v2, v3, v4, v5, v6, v7⟩ := own_all gu gd
  obtain ⟨T1, h1, X1, e1, E1, A1, D1, -, st1⟩ := newO X0 hx hZ hown (hw _ (List.mem_of_getElem? (i := 1) rfl)) (hw _ (List.mem_of_getElem? (i := 2) rfl)) (hw _ (List.mem_of_getElem? (i := 3) rfl)) e0 (g := (mkF m 16 #[.val (.int p1), .val (.int p2), .val (.int uu), .val (.int dd), .unset, .unset, .unset, .unset, .unset, .unset, .unset, .unset, .unset, .unset, .unset, .unset, .unset, .unset] [])) rfl (hb hby at_16) (by decide) (by decide)
  obtain ⟨o1, g1⟩ : ∃ z, z = h0.size := ⟨_, rfl⟩
  rw [← g1] at A1 D1 st1
  have g_o1 : n0 ≤ o1 := Nat.le_trans Z0 (Nat.le_of_eq g1.symm)
  have Z1 := (Nat.le_trans Z0 E1.1)
  have F_thumbsUp_o1 : Fld Z h1 o1 "com/example/equate/equate/VoteRank" "thumbsUp" "I" (.int (0 : Int32)) := D1 (Or.inr (hw _ (List.mem_of_getElem? (i := 28) rfl))) (ty := .int) (by decide)
  have F_thumbsDown_o1 : Fld Z h1 o1 "com/example/equate/equate/VoteRank" "thumbsDown" "I" (.int (0 : Int32)) := D1 (Or.inr (hw _ (List.mem_of_getElem? (i := 30) rfl))) (ty := .int) (by decide)
  obtain ⟨_, _, ⟨T2, L2, k2, n2⟩, -, X2, hS, hgr, ⟨Lc2, ⟨hQ2, hLit⟩, l2, y2, z2⟩, st2⟩ := X1.specialBackS hx (y := (⟨"com/example/equate/equate/VoteRank", "<init>", "(II)V"⟩ : MethodName)) rfl hown (mvT hZ (hw _ (List.mem_of_getElem? (i := 4) rfl))) (mvT hZ (hw _ (List.mem_of_getElem? (i := 5) rfl))) (mvT hZ (hw _ (List.mem_of_getElem? (i := 6) rfl))) (by decide) (own_backS (W := 1) (rm1c l Z a0 hw [] o1 uu dd (.int (0 : Int32)) (.int (0 : Int32)) h1 n0 Z1 g_o1 A1 F_thumbsUp_o1 F_thumbsDown_o1 ku1 ku2 kd1 kd2) hZ (hw _ (List.mem_of_getElem? (i := 6) rfl)) (hw _ (List.mem_of_getElem? (i := 3) rfl)) (by decide) (by decide)) (g := (mkF m 22 #[.val (.int p1), .val (.int p2), .val (.int uu), .val (.int dd), .unset, .unset, .unset, .unset, .unset, .unset, .unset, .unset, .unset, .unset, .unset, .unset, .unset, .unset] [(.int dd), (.int uu), (.ref o1), (.ref o1)])) rfl (by rw [hml]; rfl) (Steps.refl _) (a := o1) (argsL := [(.int uu), (.int dd)]) (rest := [(.ref o1)]) (lenOf pd_2 rfl) rfl (by show 2 * 0 + _ ≤ _; exact Nat.le_of_eq rfl) (hb hby at_22) (fun _ _ => ⟨rfl, e1, (by decide : 1 + 4 ≤ _), (by decide : 2 + 80 ≤ _)⟩)
  dsimp only [Pt.U, Pt.locs, Pt.cells, Pt.slots] at X2 l2 y2 z2 st2 hQ2 hS hgr hLit
  subst l2 y2 z2
  obtain ⟨rfl, N2q, K2, E2, Fu2, Fd2⟩ := hQ2
  have N2 := Fr.app N0 N2q
  have A1_h2 := (A1.keep K2)
  have Z2 := (Nat.le_trans Z1 K2.1)
  have hZ0 : Z.Warmed39 (s.setVm T2.vm).vm := State.Warmed39.trans hZ hS.1
  have hw0 := hw
  obtain ⟨ZZ, hZZ⟩ : ∃ z : State, z = Z.setVm T2.vm := ⟨_, rfl⟩
  have hw : ∀ d ∈ tables_1, d.before a0 ZZ = true := by rw [hZZ]; exact fun d hd => Cond.rideW hZ0 d (own_rides d hd) (hw0 d hd)
  have hZ : ZZ.Warmed39 (s.setVm T2.vm).vm := by rw [hZZ]; exact State.Warmed39.refl (Z.setVm T2.vm)
  have hown : (s.setVm T2.vm).vm.findClass "com/example/equate/equate/VoteRankRankPinLaw" = some m.cls := (hS.1.alike.findClass _ _).trans hown
  obtain ⟨y1, y2, Ly1, Ly2⟩ := hLit
  have Ly1 : Lit ZZ "com/example/equate/equate/VoteRank" 7 y1 := by rw [hZZ]; exact Ly1
  have Ly2 : Lit ZZ "com/example/equate/equate/VoteRank" 15 y2 := by rw [hZZ]; exact Ly2
  obtain ⟨T3, h3, X3, e3, E3, A3, D3, -, st3⟩ := newO X2 hx hZ hown (hw _ (List.mem_of_getElem? (i := 1) rfl)) (hw _ (List.mem_of_getElem? (i := 2) rfl)) (hw _ (List.mem_of_getElem? (i := 3) rfl)) rfl (g := (mkF m 27 #[.val (.int p1), .val (.int p2), .val (.int uu), .val (.int dd), .val (.ref o1), .unset, .unset, .unset, .unset, .unset, .unset, .unset, .unset, .unset, .unset, .unset, .unset, .unset] [])) rfl (hb hby at_27) (by decide) (by decide)
  obtain ⟨o2, g3⟩ : ∃ z, z = T2.heap.size := ⟨_, rfl⟩
  rw [← g3] at A3 D3 st3
  have g_o2 : n0 ≤ o2 := Nat.le_trans Z2 (Nat.le_of_eq g3.symm)
  have ne_o1_o2 : o1 ≠ o2 := Nat.ne_of_lt (Nat.lt_of_lt_of_le E2.lt (Nat.le_of_eq g3.symm))
  have E2_h3 := (E2.ext E3)
  have Fu2_h3 := (Fu2.ext E3)
  have Fd2_h3 := (Fd2.ext E3)
  have Z3 := (Nat.le_trans Z2 E3.1)
  have F_thumbsUp_o2 : Fld ZZ h3 o2 "com/example/equate/equate/VoteRank" "thumbsUp" "I" (.int (0 : Int32)) := D3 (Or.inr (hw _ (List.mem_of_getElem? (i := 28) rfl))) (ty := .int) (by decide)
  have F_thumbsDown_o2 : Fld ZZ h3 o2 "com/example/equate/equate/VoteRank" "thumbsDown" "I" (.int (0 : Int32)) := D3 (Or.inr (hw _ (List.mem_of_getElem? (i := 30) rfl))) (ty := .int) (by decide)
  obtain ⟨_, _, ⟨T4, L4, k4, n4⟩, -, X4, ⟨Lc4, hQ4, l4, y4, z4⟩, st4⟩ := X3.specialBack hx (y := (⟨"com/example/equate/equate/VoteRank", "<init>", "(II)V"⟩ : MethodName)) rfl hown (mvT hZ (hw _ (List.mem_of_getElem? (i := 4) rfl))) (mvT hZ (hw _ (List.mem_of_getElem? (i := 5) rfl))) (mvT hZ (hw _ (List.mem_of_getElem? (i := 6) rfl))) (by decide) (backOf (W := 1) (rm1w l ZZ a0 hw [] o2 dd uu (.int (0 : Int32)) (.int (0 : Int32)) y1 y2 h3 n0 Z3 g_o2 A3 F_thumbsUp_o2 F_thumbsDown_o2 kd1 kd2 ku1 ku2 Ly1 Ly2) hZ (hw _ (List.mem_of_getElem? (i := 6) rfl)) (hw _ (List.mem_of_getElem? (i := 3) rfl)) (by decide) (by decide)) (g := (mkF m 33 #[.val (.int p1), .val (.int p2), .val (.int uu), .val (.int dd), .val (.ref o1), .unset, .unset, .unset, .unset, .unset, .unset, .unset, .unset, .unset, .unset, .unset, .unset, .unset] [(.int uu), (.int dd), (.ref o2), (.ref o2)])) rfl (by rw [hml]; rfl) (Steps.refl _) (a := o2) (argsL := [(.int dd), (.int uu)]) (rest := [(.ref o2)]) (lenOf pd_2 rfl) rfl (by show 2 * 0 + _ ≤ _; exact Nat.le_of_eq rfl) (hb hby at_33) (fun _ _ => ⟨rfl, e3, (by decide : 6 + 0 ≤ _), (by decide : 84 + 0 ≤ _)⟩)
  dsimp only [Pt.U, Pt.locs, Pt.cells, Pt.slots] at X4 l4 y4 z4 st4 hQ4
  subst l4 y4 z4
  obtain ⟨rfl, N4q, K4, E4, Fu4, Fd4⟩ := hQ4
  have N4 := Fr.app N2 N4q
  have E2_h4 := (E2_h3.keep K4)
  have Fu2_h4 := (Fu2_h3.keep K4 (by simp only [List.mem_cons, List.not_mem_nil, or_false, not_or]; exact ne_o1_o2))
  have Fd2_h4 := (Fd2_h3.keep K4 (by simp only [List.mem_cons, List.not_mem_nil, or_false, not_or]; exact ne_o1_o2))
  have A3_h4 := (A3.keep K4)
  have Z4 := (Nat.le_trans Z3 K4.1)
  obtain ⟨T5, h5, X5, e5, E5, A5, D5, -, st5⟩ := newO X4 hx hZ hown (hw _ (List.mem_of_getElem? (i := 1) rfl)) (hw _ (List.mem_of_getElem? (i := 2) rfl)) (hw _ (List.mem_of_getElem? (i := 3) rfl)) rfl (g := (mkF m 38 #[.val (.int p1), .val (.int p2), .val (.int uu), .val (.int dd), .val (.ref o1), .val (.ref o2), .unset, .unset, .unset, .unset, .unset, .unset, .unset, .unset, .unset, .unset, .unset, .unset] [])) rfl (hb hby at_38) (by decide) (by decide)
  obtain ⟨o3, g5⟩ : ∃ z, z = T4.heap.size := ⟨_, rfl⟩
  rw [← g5] at A5 D5 st5
  have g_o3 : n0 ≤ o3 := Nat.le_trans Z4 (Nat.le_of_eq g5.symm)
  have ne_o1_o3 : o1 ≠ o3 := Nat.ne_of_lt (Nat.lt_of_lt_of_le E2_h4.lt (Nat.le_of_eq g5.symm))
  have ne_o2_o3 : o2 ≠ o3 := Nat.ne_of_lt (Nat.lt_of_lt_of_le E4.lt (Nat.le_of_eq g5.symm))
  have E2_h5 := (E2_h4.ext E5)
  have Fu2_h5 := (Fu2_h4.ext E5)
  have Fd2_h5 := (Fd2_h4.ext E5)
  have E4_h5 := (E4.ext E5)
  have Fu4_h5 := (Fu4.ext E5)
  have Fd4_h5 := (Fd4.ext E5)
  have Z5 := (Nat.le_trans Z4 E5.1)
  have F_thumbsUp_o3 : Fld ZZ h5 o3 "com/example/equate/equate/VoteRank" "thumbsUp" "I" (.int (0 : Int32)) := D5 (Or.inr (hw _ (List.mem_of_getElem? (i := 28) rfl))) (ty := .int) (by decide)
  have F_thumbsDown_o3 : Fld ZZ h5 o3 "com/example/equate/equate/VoteRank" "thumbsDown" "I" (.int (0 : Int32)) := D5 (Or.inr (hw _ (List.mem_of_getElem? (i := 30) rfl))) (ty := .int) (by decide)
  obtain ⟨_, _, ⟨T6, L6, k6, n6⟩, -, X6, ⟨Lc6, hQ6, l6, y6, z6⟩, st6⟩ := X5.specialBack hx (y := (⟨"com/example/equate/equate/VoteRank", "<init>", "(II)V"⟩ : MethodName)) rfl hown (mvT hZ (hw _ (List.mem_of_getElem? (i := 4) rfl))) (mvT hZ (hw _ (List.mem_of_getElem? (i := 5) rfl))) (mvT hZ (hw _ (List.mem_of_getElem? (i := 6) rfl))) (by decide) (backOf (W := 1) (rm1w l ZZ a0 hw [] o3 (0 : Int32) dd (.int (0 : Int32)) (.int (0 : Int32)) y1 y2 h5 n0 Z5 g_o3 A5 F_thumbsUp_o3 F_thumbsDown_o3 kz1 kz2 kd1 kd2 Ly1 Ly2) hZ (hw _ (List.mem_of_getElem? (i := 6) rfl)) (hw _ (List.mem_of_getElem? (i := 3) rfl)) (by decide) (by decide)) (g := (mkF m 44 #[.val (.int p1), .val (.int p2), .val (.int uu), .val (.int dd), .val (.ref o1), .val (.ref o2), .unset, .unset, .unset, .unset, .unset, .unset, .unset, .unset, .unset, .unset, .unset, .unset] [(.int dd), (.int (0 : Int32)), (.ref o3), (.ref o3)])) rfl (by rw [hml]; rfl) (Steps.refl _) (a := o3) (argsL := [(.int (0 : Int32)), (.int dd)]) (rest := [(.ref o3)]) (lenOf pd_2 rfl) rfl (by show 2 * 0 + _ ≤ _; exact Nat.le_of_eq rfl) (hb hby at_44) (fun _ _ => ⟨rfl, e5, (by decide : 7 + 0 ≤ _), (by decide : 86 + 0 ≤ _)⟩)
  dsimp only [Pt.U, Pt.locs, Pt.cells, Pt.slots] at X6 l6 y6 z6 st6 hQ6
  subst l6 y6 z6
  obtain ⟨rfl, N6q, K6, E6, Fu6, Fd6⟩ := hQ6
  have N6 := Fr.app N4 N6q
  have E2_h6 := (E2_h5.keep K6)
  have Fu2_h6 := (Fu2_h5.keep K6 (by simp only [List.mem_cons, List.not_mem_nil, or_false, not_or]; exact ne_o1_o3))
  have Fd2_h6 := (Fd2_h5.keep K6 (by simp only [List.mem_cons, List.not_mem_nil, or_false, not_or]; exact ne_o1_o3))
  have E4_h6 := (E4_h5.keep K6)
  have Fu4_h6 := (Fu4_h5.keep K6 (by simp only [List.mem_cons, List.not_mem_nil, or_false, not_or]; exact ne_o2_o3))
  have Fd4_h6 := (Fd4_h5.keep K6 (by simp only [List.mem_cons, List.not_mem_nil, or_false, not_or]; exact ne_o2_o3))
  have A5_h6 := (A5.keep K6)
  have Z6 := (Nat.le_trans Z5 K6.1)
  obtain ⟨T7, h7, X7, e7, E7, A7, D7, -, st7⟩ := newO X6 hx hZ hown (hw _ (List.mem_of_getElem? (i := 1) rfl)) (hw _ (List.mem_of_getElem? (i := 2) rfl)) (hw _ (List.mem_of_getElem? (i := 3) rfl)) rfl (g := (mkF m 49 #[.val (.int p1), .val (.int p2), .val (.int uu), .val (.int dd), .val (.ref o1), .val (.ref o2), .val (.ref o3), .unset, .unset, .unset, .unset, .unset, .unset, .unset, .unset, .unset, .unset, .unset] [])) rfl (hb hby at_49) (by decide) (by decide)
  obtain ⟨o4, g7⟩ : ∃ z, z = T6.heap.size := ⟨_, rfl⟩
  rw [← g7] at A7 D7 st7
  have g_o4 : n0 ≤ o4 := Nat.le_trans Z6 (Nat.le_of_eq g7.symm)
  have ne_o1_o4 : o1 ≠ o4 := Nat.ne_of_lt (Nat.lt_of_lt_of_le E2_h6.lt (Nat.le_of_eq g7.symm))
  have ne_o2_o4 : o2 ≠ o4 := Nat.ne_of_lt (Nat.lt_of_lt_of_le E4_h6.lt (Nat.le_of_eq g7.symm))
  have ne_o3_o4 : o3 ≠ o4 := Nat.ne_of_lt (Nat.lt_of_lt_of_le E6.lt (Nat.le_of_eq g7.symm))
  have E2_h7 := (E2_h6.ext E7)
  have Fu2_h7 := (Fu2_h6.ext E7)
  have Fd2_h7 := (Fd2_h6.ext E7)
  have E4_h7 := (E4_h6.ext E7)
  have Fu4_h7 := (Fu4_h6.ext E7)
  have Fd4_h7 := (Fd4_h6.ext E7)
  have E6_h7 := (E6.ext E7)
  have Fu6_h7 := (Fu6.ext E7)
  have Fd6_h7 := (Fd6.ext E7)
  have Z7 := (Nat.le_trans Z6 E7.1)
  have F_thumbsUp_o4 : Fld ZZ h7 o4 "com/example/equate/equate/VoteRank" "thumbsUp" "I" (.int (0 : Int32)) := D7 (Or.inr (hw _ (List.mem_of_getElem? (i := 28) rfl))) (ty := .int) (by decide)
  have F_thumbsDown_o4 : Fld ZZ h7 o4 "com/example/equate/equate/VoteRank" "thumbsDown" "I" (.int (0 : Int32)) := D7 (Or.inr (hw _ (List.mem_of_getElem? (i := 30) rfl))) (ty := .int) (by decide)
  obtain ⟨_, _, ⟨T8, L8, k8, n8⟩, -, X8, ⟨Lc8, hQ8, l8, y8, z8⟩, st8⟩ := X7.specialBack hx (y := (⟨"com/example/equate/equate/VoteRank", "<init>", "(II)V"⟩ : MethodName)) rfl hown (mvT hZ (hw _ (List.mem_of_getElem? (i := 4) rfl))) (mvT hZ (hw _ (List.mem_of_getElem? (i := 5) rfl))) (mvT hZ (hw _ (List.mem_of_getElem? (i := 6) rfl))) (by decide) (backOf (W := 1) (rm1w l ZZ a0 hw [] o4 dd (0 : Int32) (.int (0 : Int32)) (.int (0 : Int32)) y1 y2 h7 n0 Z7 g_o4 A7 F_thumbsUp_o4 F_thumbsDown_o4 kd1 kd2 kz1 kz2 Ly1 Ly2) hZ (hw _ (List.mem_of_getElem? (i := 6) rfl)) (hw _ (List.mem_of_getElem? (i := 3) rfl)) (by decide) (by decide)) (g := (mkF m 55 #[.val (.int p1), .val (.int p2), .val (.int uu), .val (.int dd), .val (.ref o1), .val (.ref o2), .val (.ref o3), .unset, .unset, .unset, .unset, .unset, .unset, .unset, .unset, .unset, .unset, .unset] [(.int (0 : Int32)), (.int dd), (.ref o4), (.ref o4)])) rfl (by rw [hml]; rfl) (Steps.refl _) (a := o4) (argsL := [(.int dd), (.int (0 : Int32))]) (rest := [(.ref o4)]) (lenOf pd_2 rfl) rfl (by show 2 * 0 + _ ≤ _; exact Nat.le_of_eq rfl) (hb hby at_55) (fun _ _ => ⟨rfl, e7, (by decide : 8 + 0 ≤ _), (by decide : 88 + 0 ≤ _)⟩)
  dsimp only [Pt.U, Pt.locs, Pt.cells, Pt.slots] at X8 l8 y8 z8 st8 hQ8
  subst l8 y8 z8
  obtain ⟨rfl, N8q, K8, E8, Fu8, Fd8⟩ := hQ8
  have N8 := Fr.app N6 N8q
  have E2_h8 := (E2_h7.keep K8)
  have Fu2_h8 := (Fu2_h7.keep K8 (by simp only [List.mem_cons, List.not_mem_nil, or_false, not_or]; exact ne_o1_o4))
  have Fd2_h8 := (Fd2_h7.keep K8 (by simp only [List.mem_cons, List.not_mem_nil, or_false, not_or]; exact ne_o1_o4))
  have E4_h8 := (E4_h7.keep K8)
  have Fu4_h8 := (Fu4_h7.keep K8 (by simp only [List.mem_cons, List.not_mem_nil, or_false, not_or]; exact ne_o2_o4))
  have Fd4_h8 := (Fd4_h7.keep K8 (by simp only [List.mem_cons, List.not_mem_nil, or_false, not_or]; exact ne_o2_o4))
  have E6_h8 := (E6_h7.keep K8)
  have Fu6_h8 := (Fu6_h7.keep K8 (by simp only [List.mem_cons, List.not_mem_nil, or_false, not_or]; exact ne_o3_o4))
  have Fd6_h8 := (Fd6_h7.keep K8 (by simp only [List.mem_cons, List.not_mem_nil, or_false, not_or]; exact ne_o3_o4))
  have A7_h8 := (A7.keep K8)
  have Z8 := (Nat.le_trans Z7 K8.1)
  obtain ⟨T9, h9, X9, e9, E9, A9, D9, -, st9⟩ := newO X8 hx hZ hown (hw _ (List.mem_of_getElem? (i := 1) rfl)) (hw _ (List.mem_of_getElem? (i := 2) rfl)) (hw _ (List.mem_of_getElem? (i := 3) rfl)) rfl (g := (mkF m 60 #[.val (.int p1), .val (.int p2), .val (.int uu), .val (.int dd), .val (.ref o1), .val (.ref o2), .val (.ref o3), .val (.ref o4), .unset, .unset, .unset, .unset, .unset, .unset, .unset, .unset, .unset, .unset] [])) rfl (hb hby at_60) (by decide) (by decide)
  obtain ⟨o5, g9⟩ : ∃ z, z = T8.heap.size := ⟨_, rfl⟩
  rw [← g9] at A9 D9 st9
  have g_o5 : n0 ≤ o5 := Nat.le_trans Z8 (Nat.le_of_eq g9.symm)
  have ne_o1_o5 : o1 ≠ o5 := Nat.ne_of_lt (Nat.lt_of_lt_of_le E2_h8.lt (Nat.le_of_eq g9.symm))
  have ne_o2_o5 : o2 ≠ o5 := Nat.ne_of_lt (Nat.lt_of_lt_of_le E4_h8.lt (Nat.le_of_eq g9.symm))
  have ne_o3_o5 : o3 ≠ o5 := Nat.ne_of_lt (Nat.lt_of_lt_of_le E6_h8.lt (Nat.le_of_eq g9.symm))
  have ne_o4_o5 : o4 ≠ o5 := Nat.ne_of_lt (Nat.lt_of_lt_of_le E8.lt (Nat.le_of_eq g9.symm))
  have E2_h9 := (E2_h8.ext E9)
  have Fu2_h9 := (Fu2_h8.ext E9)
  have Fd2_h9 := (Fd2_h8.ext E9)
  have E4_h9 := (E4_h8.ext E9)
  have Fu4_h9 := (Fu4_h8.ext E9)
  have Fd4_h9 := (Fd4_h8.ext E9)
  have E6_h9 := (E6_h8.ext E9)
  have Fu6_h9 := (Fu6_h8.ext E9)
  have Fd6_h9 := (Fd6_h8.ext E9)
  have E8_h9 := (E8.ext E9)
  have Fu8_h9 := (Fu8.ext E9)
  have Fd8_h9 := (Fd8.ext E9)
  have Z9 := (Nat.le_trans Z8 E9.1)
  have F_thumbsUp_o5 : Fld ZZ h9 o5 "com/example/equate/equate/VoteRank" "thumbsUp" "I" (.int (0 : Int32)) := D9 (Or.inr (hw _ (List.mem_of_getElem? (i := 28) rfl))) (ty := .int) (by decide)
  have F_thumbsDown_o5 : Fld ZZ h9 o5 "com/example/equate/equate/VoteRank" "thumbsDown" "I" (.int (0 : Int32)) := D9 (Or.inr (hw _ (List.mem_of_getElem? (i := 30) rfl))) (ty := .int) (by decide)
  obtain ⟨_, _, ⟨T10, L10, k10, n10⟩, -, X10, ⟨Lc10, hQ10, l10, y10, z10⟩, st10⟩ := X9.specialBack hx (y := (⟨"com/example/equate/equate/VoteRank", "<init>", "(II)V"⟩ : MethodName)) rfl hown (mvT hZ (hw _ (List.mem_of_getElem? (i := 4) rfl))) (mvT hZ (hw _ (List.mem_of_getElem? (i := 5) rfl))) (mvT hZ (hw _ (List.mem_of_getElem? (i := 6) rfl))) (by decide) (backOf (W := 1) (rm1w l ZZ a0 hw [] o5 (0 : Int32) (0 : Int32) (.int (0 : Int32)) (.int (0 : Int32)) y1 y2 h9 n0 Z9 g_o5 A9 F_thumbsUp_o5 F_thumbsDown_o5 kz1 kz2 kz1 kz2 Ly1 Ly2) hZ (hw _ (List.mem_of_getElem? (i := 6) rfl)) (hw _ (List.mem_of_getElem? (i := 3) rfl)) (by decide) (by decide)) (g := (mkF m 66 #[.val (.int p1), .val (.int p2), .val (.int uu), .val (.int dd), .val (.ref o1), .val (.ref o2), .val (.ref o3), .val (.ref o4), .unset, .unset, .unset, .unset, .unset, .unset, .unset, .unset, .unset, .unset] [(.int (0 : Int32)), (.int (0 : Int32)), (.ref o5), (.ref o5)])) rfl (by rw [hml]; rfl) (Steps.refl _) (a := o5) (argsL := [(.int (0 : Int32)), (.int (0 : Int32))]) (rest := [(.ref o5)]) (lenOf pd_2 rfl) rfl (by show 2 * 0 + _ ≤ _; exact Nat.le_of_eq rfl) (hb hby at_66) (fun _ _ => ⟨rfl, e9, (by decide : 9 + 0 ≤ _), (by decide : 90 + 0 ≤ _)⟩)
  dsimp only [Pt.U, Pt.locs, Pt.cells, Pt.slots] at X10 l10 y10 z10 st10 hQ10
  subst l10 y10 z10
  obtain ⟨rfl, N10q, K10, E10, Fu10, Fd10⟩ := hQ10
  have N10 := Fr.app N8 N10q
  have E2_h10 := (E2_h9.keep K10)
  have Fu2_h10 := (Fu2_h9.keep K10 (by simp only [List.mem_cons, List.not_mem_nil, or_false, not_or]; exact ne_o1_o5))
  have Fd2_h10 := (Fd2_h9.keep K10 (by simp only [List.mem_cons, List.not_mem_nil, or_false, not_or]; exact ne_o1_o5))
  have E4_h10 := (E4_h9.keep K10)
  have Fu4_h10 := (Fu4_h9.keep K10 (by simp only [List.mem_cons, List.not_mem_nil, or_false, not_or]; exact ne_o2_o5))
  have Fd4_h10 := (Fd4_h9.keep K10 (by simp only [List.mem_cons, List.not_mem_nil, or_false, not_or]; exact ne_o2_o5))
  have E6_h10 := (E6_h9.keep K10)
  have Fu6_h10 := (Fu6_h9.keep K10 (by simp only [List.mem_cons, List.not_mem_nil, or_false, not_or]; exact ne_o3_o5))
  have Fd6_h10 := (Fd6_h9.keep K10 (by simp only [List.mem_cons, List.not_mem_nil, or_false, not_or]; exact ne_o3_o5))
  have E8_h10 := (E8_h9.keep K10)
  have Fu8_h10 := (Fu8_h9.keep K10 (by simp only [List.mem_cons, List.not_mem_nil, or_false, not_or]; exact ne_o4_o5))
  have Fd8_h10 := (Fd8_h9.keep K10 (by simp only [List.mem_cons, List.not_mem_nil, or_false, not_or]; exact ne_o4_o5))
  have A9_h10 := (A9.keep K10)
  have Z10 := (Nat.le_trans Z9 K10.1)
  obtain ⟨cq11, kq11, q11a, q11b, q11c⟩ := isOf hZ0 rfl E2_h10
  obtain ⟨_, _, ⟨T11, L11, k11, n11⟩, -, X11, ⟨Lc11, hQ11, l11, y11, z11⟩, st11⟩ := X10.virtualBack hx (y := (⟨"com/example/equate/equate/VoteRank", "rank", "()I"⟩ : MethodName)) (z := (⟨"com/example/equate/equate/VoteRank", "rank", "()I"⟩ : MethodName)) hown (mvT hZ (hw _ (List.mem_of_getElem? (i := 31) rfl))) (mvT hZ (hw _ (List.mem_of_getElem? (i := 32) rfl))) (notFace_of_selects (args := #[]) (mvT hZ (hw _ (List.mem_of_getElem? (i := 34) rfl)))) (mvT hZ (hw _ (List.mem_of_getElem? (i := 34) rfl))) (mvT hZ (hw _ (List.mem_of_getElem? (i := 33) rfl))) (by decide) (backOf (W := 0) (rm5 l Z a0 hw0 [] o1 uu dd T10.heap n0 Z10 Fu2_h10 Fd2_h10) hZ0 (hw0 _ (List.mem_of_getElem? (i := 35) rfl)) (hw0 _ (List.mem_of_getElem? (i := 3) rfl)) (by decide) (by decide)) q11a q11c (g := (mkF m 73 #[.val (.int p1), .val (.int p2), .val (.int uu), .val (.int dd), .val (.ref o1), .val (.ref o2), .val (.ref o3), .val (.ref o4), .val (.ref o5), .unset, .unset, .unset, .unset, .unset, .unset, .unset, .unset, .unset] [(.ref o1)])) rfl (by rw [hml]; rfl) (Steps.refl _) (argsL := []) (rest := []) (lenOf pd_3 rfl) rfl (by show 2 * 0 + _ ≤ _; exact Nat.le_of_eq rfl) (hb hby at_73) (fun _ _ => ⟨rfl, rfl, (by decide : 9 + 0 ≤ _), (by decide : 90 + 0 ≤ _)⟩)
  dsimp only [Pt.U, Pt.locs, Pt.cells, Pt.slots] at X11 l11 y11 z11 st11 hQ11
  subst l11 y11 z11
  obtain ⟨rfl, N11q, e11⟩ := hQ11
  have N11 := Fr.app N10 N11q
  obtain ⟨cq12, kq12, q12a, q12b, q12c⟩ := isOf hZ e11 E4_h10
  obtain ⟨_, _, ⟨T12, L12, k12, n12⟩, -, X12, ⟨Lc12, hQ12, l12, y12, z12⟩, st12⟩ := X11.virtualBack hx (y := (⟨"com/example/equate/equate/VoteRank", "rank", "()I"⟩ : MethodName)) (z := (⟨"com/example/equate/equate/VoteRank", "rank", "()I"⟩ : MethodName)) hown (mvT hZ (hw _ (List.mem_of_getElem? (i := 31) rfl))) (mvT hZ (hw _ (List.mem_of_getElem? (i := 32) rfl))) (notFace_of_selects (args := #[]) (mvT hZ (hw _ (List.mem_of_getElem? (i := 34) rfl)))) (mvT hZ (hw _ (List.mem_of_getElem? (i := 34) rfl))) (mvT hZ (hw _ (List.mem_of_getElem? (i := 33) rfl))) (by decide) (backOf (W := 0) (rm5 l ZZ a0 hw [] o2 dd uu T10.heap n0 Z10 Fu4_h10 Fd4_h10) hZ (hw _ (List.mem_of_getElem? (i := 35) rfl)) (hw _ (List.mem_of_getElem? (i := 3) rfl)) (by decide) (by decide)) q12a q12c (g := (mkF m 80 #[.val (.int p1), .val (.int p2), .val (.int uu), .val (.int dd), .val (.ref o1), .val (.ref o2), .val (.ref o3), .val (.ref o4), .val (.ref o5), .val (.int (own_rank uu dd)), .unset, .unset, .unset, .unset, .unset, .unset, .unset, .unset] [(.ref o2)])) rfl (by rw [hml]; rfl) (Steps.refl _) (argsL := []) (rest := []) (lenOf pd_3 rfl) rfl (by show 2 * 0 + _ ≤ _; exact Nat.le_of_eq rfl) (hb hby at_80) (fun _ _ => ⟨rfl, e11, (by decide : 9 + 0 ≤ _), (by decide : 90 + 0 ≤ _)⟩)
  dsimp only [Pt.U, Pt.locs, Pt.cells, Pt.slots] at X12 l12 y12 z12 st12 hQ12
  subst l12 y12 z12
  obtain ⟨rfl, N12q, e12⟩ := hQ12
  have N12 := Fr.app N11 N12q
  obtain ⟨cq13, kq13, q13a, q13b, q13c⟩ := isOf hZ e12 E6_h10
  obtain ⟨_, _, ⟨T13, L13, k13, n13⟩, -, X13, ⟨Lc13, hQ13, l13, y13, z13⟩, st13⟩ := X12.virtualBack hx (y := (⟨"com/example/equate/equate/VoteRank", "rank", "()I"⟩ : MethodName)) (z := (⟨"com/example/equate/equate/VoteRank", "rank", "()I"⟩ : MethodName)) hown (mvT hZ (hw _ (List.mem_of_getElem? (i := 31) rfl))) (mvT hZ (hw _ (List.mem_of_getElem? (i := 32) rfl))) (notFace_of_selects (args := #[]) (mvT hZ (hw _ (List.mem_of_getElem? (i := 34) rfl)))) (mvT hZ (hw _ (List.mem_of_getElem? (i := 34) rfl))) (mvT hZ (hw _ (List.mem_of_getElem? (i := 33) rfl))) (by decide) (backOf (W := 0) (rm5 l ZZ a0 hw [] o3 (0 : Int32) dd T10.heap n0 Z10 Fu6_h10 Fd6_h10) hZ (hw _ (List.mem_of_getElem? (i := 35) rfl)) (hw _ (List.mem_of_getElem? (i := 3) rfl)) (by decide) (by decide)) q13a q13c (g := (mkF m 87 #[.val (.int p1), .val (.int p2), .val (.int uu), .val (.int dd), .val (.ref o1), .val (.ref o2), .val (.ref o3), .val (.ref o4), .val (.ref o5), .val (.int (own_rank uu dd)), .val (.int (own_rank dd uu)), .unset, .unset, .unset, .unset, .unset, .unset, .unset] [(.ref o3)])) rfl (by rw [hml]; rfl) (Steps.refl _) (argsL := []) (rest := []) (lenOf pd_3 rfl) rfl (by show 2 * 0 + _ ≤ _; exact Nat.le_of_eq rfl) (hb hby at_87) (fun _ _ => ⟨rfl, e12, (by decide : 9 + 0 ≤ _), (by decide : 90 + 0 ≤ _)⟩)
  dsimp only [Pt.U, Pt.locs, Pt.cells, Pt.slots] at X13 l13 y13 z13 st13 hQ13
  subst l13 y13 z13
  obtain ⟨rfl, N13q, e13⟩ := hQ13
  have N13 := Fr.app N12 N13q
  obtain ⟨cq14, kq14, q14a, q14b, q14c⟩ := isOf hZ e13 E8_h10
  obtain ⟨_, _, ⟨T14, L14, k14, n14⟩, -, X14, ⟨Lc14, hQ14, l14, y14, z14⟩, st14⟩ := X13.virtualBack hx (y := (⟨"com/example/equate/equate/VoteRank", "rank", "()I"⟩ : MethodName)) (z := (⟨"com/example/equate/equate/VoteRank", "rank", "()I"⟩ : MethodName)) hown (mvT hZ (hw _ (List.mem_of_getElem? (i := 31) rfl))) (mvT hZ (hw _ (List.mem_of_getElem? (i := 32) rfl))) (notFace_of_selects (args := #[]) (mvT hZ (hw _ (List.mem_of_getElem? (i := 34) rfl)))) (mvT hZ (hw _ (List.mem_of_getElem? (i := 34) rfl))) (mvT hZ (hw _ (List.mem_of_getElem? (i := 33) rfl))) (by decide) (backOf (W := 0) (rm5 l ZZ a0 hw [] o4 dd (0 : Int32) T10.heap n0 Z10 Fu8_h10 Fd8_h10) hZ (hw _ (List.mem_of_getElem? (i := 35) rfl)) (hw _ (List.mem_of_getElem? (i := 3) rfl)) (by decide) (by decide)) q14a q14c (g := (mkF m 94 #[.val (.int p1), .val (.int p2), .val (.int uu), .val (.int dd), .val (.ref o1), .val (.ref o2), .val (.ref o3), .val (.ref o4), .val (.ref o5), .val (.int (own_rank uu dd)), .val (.int (own_rank dd uu)), .val (.int (own_rank (0 : Int32) dd)), .unset, .unset, .unset, .unset, .unset, .unset] [(.ref o4)])) rfl (by rw [hml]; rfl) (Steps.refl _) (argsL := []) (rest := []) (lenOf pd_3 rfl) rfl (by show 2 * 0 + _ ≤ _; exact Nat.le_of_eq rfl) (hb hby at_94) (fun _ _ => ⟨rfl, e13, (by decide : 9 + 0 ≤ _), (by decide : 90 + 0 ≤ _)⟩)
  dsimp only [Pt.U, Pt.locs, Pt.cells, Pt.slots] at X14 l14 y14 z14 st14 hQ14
  subst l14 y14 z14
  obtain ⟨rfl, N14q, e14⟩ := hQ14
  have N14 := Fr.app N13 N14q
  obtain ⟨cq15, kq15, q15a, q15b, q15c⟩ := isOf hZ e14 E10
  obtain ⟨_, _, ⟨T15, L15, k15, n15⟩, -, X15, ⟨Lc15, hQ15, l15, y15, z15⟩, st15⟩ := X14.virtualBack hx (y := (⟨"com/example/equate/equate/VoteRank", "rank", "()I"⟩ : MethodName)) (z := (⟨"com/example/equate/equate/VoteRank", "rank", "()I"⟩ : MethodName)) hown (mvT hZ (hw _ (List.mem_of_getElem? (i := 31) rfl))) (mvT hZ (hw _ (List.mem_of_getElem? (i := 32) rfl))) (notFace_of_selects (args := #[]) (mvT hZ (hw _ (List.mem_of_getElem? (i := 34) rfl)))) (mvT hZ (hw _ (List.mem_of_getElem? (i := 34) rfl))) (mvT hZ (hw _ (List.mem_of_getElem? (i := 33) rfl))) (by decide) (backOf (W := 0) (rm5 l ZZ a0 hw [] o5 (0 : Int32) (0 : Int32) T10.heap n0 Z10 Fu10 Fd10) hZ (hw _ (List.mem_of_getElem? (i := 35) rfl)) (hw _ (List.mem_of_getElem? (i := 3) rfl)) (by decide) (by decide)) q15a q15c (g := (mkF m 101 #[.val (.int p1), .val (.int p2), .val (.int uu), .val (.int dd), .val (.ref o1), .val (.ref o2), .val (.ref o3), .val (.ref o4), .val (.ref o5), .val (.int (own_rank uu dd)), .val (.int (own_rank dd uu)), .val (.int (own_rank (0 : Int32) dd)), .val (.int (own_rank dd (0 : Int32))), .unset, .unset, .unset, .unset, .unset] [(.ref o5)])) rfl (by rw [hml]; rfl) (Steps.refl _) (argsL := []) (rest := []) (lenOf pd_3 rfl) rfl (by show 2 * 0 + _ ≤ _; exact Nat.le_of_eq rfl) (hb hby at_101) (fun _ _ => ⟨rfl, e14, (by decide : 9 + 0 ≤ _), (by decide : 90 + 0 ≤ _)⟩)
  dsimp only [Pt.U, Pt.locs, Pt.cells, Pt.slots] at X15 l15 y15 z15 st15 hQ15
  subst l15 y15 z15
  obtain ⟨rfl, N15q, e15⟩ := hQ15
  have N15 := Fr.app N14 N15q
  have hsz : T2.heap.size ≤ T15.heap.size := by rw [e15]; exact (Nat.le_trans (Nat.le_trans (Nat.le_trans (Nat.le_trans (Nat.le_trans (Nat.le_trans (Nat.le_trans E3.1 K4.1) E5.1) K6.1) E7.1) K8.1) E9.1) K10.1)
  obtain ⟨fs, hr, hrun, hended, hRW⟩ := Stand.leaveW (s := s) (vm₁ := T2.vm) X15 hS hsz (v := some (.int (1 : Int32))) (fun h => by rw [Bd.returns] at h; cases h)
  refine ⟨_, _, pre0 _ ?_, hrun, hended, _, _, rfl, ?_, hRW.1, hRW.2.1, hRW.2.2.1, hRW.2.2.2.mono (by decide) (by decide)⟩
  · show Steps p.tables e below (s₁.setTop (mkF m 0 #[.val (.int p1), .val (.int p2), .unset, .unset, .unset, .unset, .unset, .unset, .unset, .unset, .unset, .unset, .unset, .unset, .unset, .unset, .unset, .unset] [])) _
    refine XS.iloadN X0.here hx rfl (hb hby at_0) rfl ?_
    show Steps p.tables e below (s₁.setTop (mkF m 1 #[.val (.int p1), .val (.int p2), .unset, .unset, .unset, .unset, .unset, .unset, .unset, .unset, .unset, .unset, .unset, .unset, .unset, .unset, .unset, .unset] [(.int p1)])) _
    refine X0.ldcInt hx hown1 (mvT hZ1 (hw1 _ (List.mem_of_getElem? (i := 0) rfl))) (g := (mkF m 1 #[.val (.int p1), .val (.int p2), .unset, .unset, .unset, .unset, .unset, .unset, .unset, .unset, .unset, .unset, .unset, .unset, .unset, .unset, .unset, .unset] [(.int p1)])) rfl (hb hby at_1) _ ?_
    show Steps p.tables e below (s₁.setTop (mkF m 3 #[.val (.int p1), .val (.int p2), .unset, .unset, .unset, .unset, .unset, .unset, .unset, .unset, .unset, .unset, .unset, .unset, .unset, .unset, .unset, .unset] [(.int (2147483647 : Int32)), (.int p1)])) _
    refine XS.iand X0.here hx rfl (hb hby at_3) rfl ?_
    show Steps p.tables e below (s₁.setTop (mkF m 4 #[.val (.int p1), .val (.int p2), .unset, .unset, .unset, .unset, .unset, .unset, .unset, .unset, .unset, .unset, .unset, .unset, .unset, .unset, .unset, .unset] [(.int (p1 &&& (2147483647 : Int32)))])) _
    refine XS.bipush X0.here hx rfl (hb hby at_4) ?_
    show Steps p.tables e below (s₁.setTop (mkF m 6 #[.val (.int p1), .val (.int p2), .unset, .unset, .unset, .unset, .unset, .unset, .unset, .unset, .unset, .unset, .unset, .unset, .unset, .unset, .unset, .unset] [(.int (101 : Int32)), (.int (p1 &&& (2147483647 : Int32)))])) _
    refine iremM X0 hx rfl (hb hby at_6) rfl (by decide) ?_
    show Steps p.tables e below (s₁.setTop (mkF m 7 #[.val (.int p1), .val (.int p2), .unset, .unset, .unset, .unset, .unset, .unset, .unset, .unset, .unset, .unset, .unset, .unset, .unset, .unset, .unset, .unset] [(.int ((p1 &&& (2147483647 : Int32)) % (101 : Int32)))])) _
    refine XS.istoreN X0.here hx rfl (hb hby at_7) rfl (l' := #[.val (.int p1), .val (.int p2), .val (.int ((p1 &&& (2147483647 : Int32)) % (101 : Int32))), .unset, .unset, .unset, .unset, .unset, .unset, .unset, .unset, .unset, .unset, .unset, .unset, .unset, .unset, .unset]) rfl ?_
    show Steps p.tables e below (s₁.setTop (mkF m 8 #[.val (.int p1), .val (.int p2), .val (.int ((p1 &&& (2147483647 : Int32)) % (101 : Int32))), .unset, .unset, .unset, .unset, .unset, .unset, .unset, .unset, .unset, .unset, .unset, .unset, .unset, .unset, .unset] [])) _
    refine stg_uu _ ?_
    show Steps p.tables e below (s₁.setTop (mkF m 8 #[.val (.int p1), .val (.int p2), .val (.int uu), .unset, .unset, .unset, .unset, .unset, .unset, .unset, .unset, .unset, .unset, .unset, .unset, .unset, .unset, .unset] [])) _
    refine XS.iloadN X0.here hx rfl (hb hby at_8) rfl ?_
    show Steps p.tables e below (s₁.setTop (mkF m 9 #[.val (.int p1), .val (.int p2), .val (.int uu), .unset, .unset, .unset, .unset, .unset, .unset, .unset, .unset, .unset, .unset, .unset, .unset, .unset, .unset, .unset] [(.int p2)])) _
    refine X0.ldcInt hx hown1 (mvT hZ1 (hw1 _ (List.mem_of_getElem? (i := 0) rfl))) (g := (mkF m 9 #[.val (.int p1), .val (.int p2), .val (.int uu), .unset, .unset, .unset, .unset, .unset, .unset, .unset, .unset, .unset, .unset, .unset, .unset, .unset, .unset, .unset] [(.int p2)])) rfl (hb hby at_9) _ ?_
    show Steps p.tables e below (s₁.setTop (mkF m 11 #[.val (.int p1), .val (.int p2), .val (.int uu), .unset, .unset, .unset, .unset, .unset, .unset, .unset, .unset, .unset, .unset, .unset, .unset, .unset, .unset, .unset] [(.int (2147483647 : Int32)), (.int p2)])) _
    refine XS.iand X0.here hx rfl (hb hby at_11) rfl ?_
    show Steps p.tables e below (s₁.setTop (mkF m 12 #[.val (.int p1), .val (.int p2), .val (.int uu), .unset, .unset, .unset, .unset, .unset, .unset, .unset, .unset, .unset, .unset, .unset, .unset, .unset, .unset, .unset] [(.int (p2 &&& (2147483647 : Int32)))])) _
    refine XS.bipush X0.here hx rfl (hb hby at_12) ?_
    show Steps p.tables e below (s₁.setTop (mkF m 14 #[.val (.int p1), .val (.int p2), .val (.int uu), .unset, .unset, .unset, .unset, .unset, .unset, .unset, .unset, .unset, .unset, .unset, .unset, .unset, .unset, .unset] [(.int (101 : Int32)), (.int (p2 &&& (2147483647 : Int32)))])) _
    refine iremM X0 hx rfl (hb hby at_14) rfl (by decide) ?_
    show Steps p.tables e below (s₁.setTop (mkF m 15 #[.val (.int p1), .val (.int p2), .val (.int uu), .unset, .unset, .unset, .unset, .unset, .unset, .unset, .unset, .unset, .unset, .unset, .unset, .unset, .unset, .unset] [(.int ((p2 &&& (2147483647 : Int32)) % (101 : Int32)))])) _
    refine XS.istoreN X0.here hx rfl (hb hby at_15) rfl (l' := #[.val (.int p1), .val (.int p2), .val (.int uu), .val (.int ((p2 &&& (2147483647 : Int32)) % (101 : Int32))), .unset, .unset, .unset, .unset, .unset, .unset, .unset, .unset, .unset, .unset, .unset, .unset, .unset, .unset]) rfl ?_
    show Steps p.tables e below (s₁.setTop (mkF m 16 #[.val (.int p1), .val (.int p2), .val (.int uu), .val (.int ((p2 &&& (2147483647 : Int32)) % (101 : Int32))), .unset, .unset, .unset, .unset, .unset, .unset, .unset, .unset, .unset, .unset, .unset, .unset, .unset, .unset] [])) _
    refine stg_dd _ ?_
    show Steps p.tables e below (s₁.setTop (mkF m 16 #[.val (.int p1), .val (.int p2), .val (.int uu), .val (.int dd), .unset, .unset, .unset, .unset, .unset, .unset, .unset, .unset, .unset, .unset, .unset, .unset, .unset, .unset] [])) _
    refine st1 _ ?_
    show Steps p.tables e below (T1.setTop (mkF m 19 #[.val (.int p1), .val (.int p2), .val (.int uu), .val (.int dd), .unset, .unset, .unset, .unset, .unset, .unset, .unset, .unset, .unset, .unset, .unset, .unset, .unset, .unset] [(.ref o1)])) _
    refine XS.dup X1.here hx rfl (hb hby at_19) rfl rfl ?_
    show Steps p.tables e below (T1.setTop (mkF m 20 #[.val (.int p1), .val (.int p2), .val (.int uu), .val (.int dd), .unset, .unset, .unset, .unset, .unset, .unset, .unset, .unset, .unset, .unset, .unset, .unset, .unset, .unset] [(.ref o1), (.ref o1)])) _
    refine XS.iloadN X1.here hx rfl (hb hby at_20) rfl ?_
    show Steps p.tables e below (T1.setTop (mkF m 21 #[.val (.int p1), .val (.int p2), .val (.int uu), .val (.int dd), .unset, .unset, .unset, .unset, .unset, .unset, .unset, .unset, .unset, .unset, .unset, .unset, .unset, .unset] [(.int uu), (.ref o1), (.ref o1)])) _
    refine XS.iloadN X1.here hx rfl (hb hby at_21) rfl ?_
    show Steps p.tables e below (T1.setTop (mkF m 22 #[.val (.int p1), .val (.int p2), .val (.int uu), .val (.int dd), .unset, .unset, .unset, .unset, .unset, .unset, .unset, .unset, .unset, .unset, .unset, .unset, .unset, .unset] [(.int dd), (.int uu), (.ref o1), (.ref o1)])) _
    refine st2.trans ?_
    show Steps p.tables e below (T2.setTop (mkF m 25 #[.val (.int p1), .val (.int p2), .val (.int uu), .val (.int dd), .unset, .unset, .unset, .unset, .unset, .unset, .unset, .unset, .unset, .unset, .unset, .unset, .unset, .unset] [(.ref o1)])) _
    refine XS.astore X2.here hx rfl (hb hby at_25) rfl rfl (l' := #[.val (.int p1), .val (.int p2), .val (.int uu), .val (.int dd), .val (.ref o1), .unset, .unset, .unset, .unset, .unset, .unset, .unset, .unset, .unset, .unset, .unset, .unset, .unset]) rfl ?_
    show Steps p.tables e below (T2.setTop (mkF m 27 #[.val (.int p1), .val (.int p2), .val (.int uu), .val (.int dd), .val (.ref o1), .unset, .unset, .unset, .unset, .unset, .unset, .unset, .unset, .unset, .unset, .unset, .unset, .unset] [])) _
    refine st3 _ ?_
    show Steps p.tables e below (T3.setTop (mkF m 30 #[.val (.int p1), .val (.int p2), .val (.int uu), .val (.int dd), .val (.ref o1), .unset, .unset, .unset, .unset, .unset, .unset, .unset, .unset, .unset, .unset, .unset, .unset, .unset] [(.ref o2)])) _
    refine XS.dup X3.here hx rfl (hb hby at_30) rfl rfl ?_
    show Steps p.tables e below (T3.setTop (mkF m 31 #[.val (.int p1), .val (.int p2), .val (.int uu), .val (.int dd), .val (.ref o1), .unset, .unset, .unset, .unset, .unset, .unset, .unset, .unset, .unset, .unset, .unset, .unset, .unset] [(.ref o2), (.ref o2)])) _
    refine XS.iloadN X3.here hx rfl (hb hby at_31) rfl ?_
    show Steps p.tables e below (T3.setTop (mkF m 32 #[.val (.int p1), .val (.int p2), .val (.int uu), .val (.int dd), .val (.ref o1), .unset, .unset, .unset, .unset, .unset, .unset, .unset, .unset, .unset, .unset, .unset, .unset, .unset] [(.int dd), (.ref o2), (.ref o2)])) _
    refine XS.iloadN X3.here hx rfl (hb hby at_32) rfl ?_
    show Steps p.tables e below (T3.setTop (mkF m 33 #[.val (.int p1), .val (.int p2), .val (.int uu), .val (.int dd), .val (.ref o1), .unset, .unset, .unset, .unset, .unset, .unset, .unset, .unset, .unset, .unset, .unset, .unset, .unset] [(.int uu), (.int dd), (.ref o2), (.ref o2)])) _
    refine st4.trans ?_
    show Steps p.tables e below (T4.setTop (mkF m 36 #[.val (.int p1), .val (.int p2), .val (.int uu), .val (.int dd), .val (.ref o1), .unset, .unset, .unset, .unset, .unset, .unset, .unset, .unset, .unset, .unset, .unset, .unset, .unset] [(.ref o2)])) _
    refine XS.astore X4.here hx rfl (hb hby at_36) rfl rfl (l' := #[.val (.int p1), .val (.int p2), .val (.int uu), .val (.int dd), .val (.ref o1), .val (.ref o2), .unset, .unset, .unset, .unset, .unset, .unset, .unset, .unset, .unset, .unset, .unset, .unset]) rfl ?_
    show Steps p.tables e below (T4.setTop (mkF m 38 #[.val (.int p1), .val (.int p2), .val (.int uu), .val (.int dd), .val (.ref o1), .val (.ref o2), .unset, .unset, .unset, .unset, .unset, .unset, .unset, .unset, .unset, .unset, .unset, .unset] [])) _
    refine st5 _ ?_
    show Steps p.tables e below (T5.setTop (mkF m 41 #[.val (.int p1), .val (.int p2), .val (.int uu), .val (.int dd), .val (.ref o1), .val (.ref o2), .unset, .unset, .unset, .unset, .unset, .unset, .unset, .unset, .unset, .unset, .unset, .unset] [(.ref o3)])) _
    refine XS.dup X5.here hx rfl (hb hby at_41) rfl rfl ?_
    show Steps p.tables e below (T5.setTop (mkF m 42 #[.val (.int p1), .val (.int p2), .val (.int uu), .val (.int dd), .val (.ref o1), .val (.ref o2), .unset, .unset, .unset, .unset, .unset, .unset, .unset, .unset, .unset, .unset, .unset, .unset] [(.ref o3), (.ref o3)])) _
    refine XS.iconst X5.here hx rfl (hb hby at_42) ?_
    show Steps p.tables e below (T5.setTop (mkF m 43 #[.val (.int p1), .val (.int p2), .val (.int uu), .val (.int dd), .val (.ref o1), .val (.ref o2), .unset, .unset, .unset, .unset, .unset, .unset, .unset, .unset, .unset, .unset, .unset, .unset] [(.int (0 : Int32)), (.ref o3), (.ref o3)])) _
    refine XS.iloadN X5.here hx rfl (hb hby at_43) rfl ?_
    show Steps p.tables e below (T5.setTop (mkF m 44 #[.val (.int p1), .val (.int p2), .val (.int uu), .val (.int dd), .val (.ref o1), .val (.ref o2), .unset, .unset, .unset, .unset, .unset, .unset, .unset, .unset, .unset, .unset, .unset, .unset] [(.int dd), (.int (0 : Int32)), (.ref o3), (.ref o3)])) _
    refine st6.trans ?_
    show Steps p.tables e below (T6.setTop (mkF m 47 #[.val (.int p1), .val (.int p2), .val (.int uu), .val (.int dd), .val (.ref o1), .val (.ref o2), .unset, .unset, .unset, .unset, .unset, .unset, .unset, .unset, .unset, .unset, .unset, .unset] [(.ref o3)])) _
    refine XS.astore X6.here hx rfl (hb hby at_47) rfl rfl (l' := #[.val (.int p1), .val (.int p2), .val (.int uu), .val (.int dd), .val (.ref o1), .val (.ref o2), .val (.ref o3), .unset, .unset, .unset, .unset, .unset, .unset, .unset, .unset, .unset, .unset, .unset]) rfl ?_
    show Steps p.tables e below (T6.setTop (mkF m 49 #[.val (.int p1), .val (.int p2), .val (.int uu), .val (.int dd), .val (.ref o1), .val (.ref o2), .val (.ref o3), .unset, .unset, .unset, .unset, .unset, .unset, .unset, .unset, .unset, .unset, .unset] [])) _
    refine st7 _ ?_
    show Steps p.tables e below (T7.setTop (mkF m 52 #[.val (.int p1), .val (.int p2), .val (.int uu), .val (.int dd), .val (.ref o1), .val (.ref o2), .val (.ref o3), .unset, .unset, .unset, .unset, .unset, .unset, .unset, .unset, .unset, .unset, .unset] [(.ref o4)])) _
    refine XS.dup X7.here hx rfl (hb hby at_52) rfl rfl ?_
    show Steps p.tables e below (T7.setTop (mkF m 53 #[.val (.int p1), .val (.int p2), .val (.int uu), .val (.int dd), .val (.ref o1), .val (.ref o2), .val (.ref o3), .unset, .unset, .unset, .unset, .unset, .unset, .unset, .unset, .unset, .unset, .unset] [(.ref o4), (.ref o4)])) _
    refine XS.iloadN X7.here hx rfl (hb hby at_53) rfl ?_
    show Steps p.tables e below (T7.setTop (mkF m 54 #[.val (.int p1), .val (.int p2), .val (.int uu), .val (.int dd), .val (.ref o1), .val (.ref o2), .val (.ref o3), .unset, .unset, .unset, .unset, .unset, .unset, .unset, .unset, .unset, .unset, .unset] [(.int dd), (.ref o4), (.ref o4)])) _
    refine XS.iconst X7.here hx rfl (hb hby at_54) ?_
    show Steps p.tables e below (T7.setTop (mkF m 55 #[.val (.int p1), .val (.int p2), .val (.int uu), .val (.int dd), .val (.ref o1), .val (.ref o2), .val (.ref o3), .unset, .unset, .unset, .unset, .unset, .unset, .unset, .unset, .unset, .unset, .unset] [(.int (0 : Int32)), (.int dd), (.ref o4), (.ref o4)])) _
    refine st8.trans ?_
    show Steps p.tables e below (T8.setTop (mkF m 58 #[.val (.int p1), .val (.int p2), .val (.int uu), .val (.int dd), .val (.ref o1), .val (.ref o2), .val (.ref o3), .unset, .unset, .unset, .unset, .unset, .unset, .unset, .unset, .unset, .unset, .unset] [(.ref o4)])) _
    refine XS.astore X8.here hx rfl (hb hby at_58) rfl rfl (l' := #[.val (.int p1), .val (.int p2), .val (.int uu), .val (.int dd), .val (.ref o1), .val (.ref o2), .val (.ref o3), .val (.ref o4), .unset, .unset, .unset, .unset, .unset, .unset, .unset, .unset, .unset, .unset]) rfl ?_
    show Steps p.tables e below (T8.setTop (mkF m 60 #[.val (.int p1), .val (.int p2), .val (.int uu), .val (.int dd), .val (.ref o1), .val (.ref o2), .val (.ref o3), .val (.ref o4), .unset, .unset, .unset, .unset, .unset, .unset, .unset, .unset, .unset, .unset] [])) _
    refine st9 _ ?_
    show Steps p.tables e below (T9.setTop (mkF m 63 #[.val (.int p1), .val (.int p2), .val (.int uu), .val (.int dd), .val (.ref o1), .val (.ref o2), .val (.ref o3), .val (.ref o4), .unset, .unset, .unset, .unset, .unset, .unset, .unset, .unset, .unset, .unset] [(.ref o5)])) _
    refine XS.dup X9.here hx rfl (hb hby at_63) rfl rfl ?_
    show Steps p.tables e below (T9.setTop (mkF m 64 #[.val (.int p1), .val (.int p2), .val (.int uu), .val (.int dd), .val (.ref o1), .val (.ref o2), .val (.ref o3), .val (.ref o4), .unset, .unset, .unset, .unset, .unset, .unset, .unset, .unset, .unset, .unset] [(.ref o5), (.ref o5)])) _
    refine XS.iconst X9.here hx rfl (hb hby at_64) ?_
    show Steps p.tables e below (T9.setTop (mkF m 65 #[.val (.int p1), .val (.int p2), .val (.int uu), .val (.int dd), .val (.ref o1), .val (.ref o2), .val (.ref o3), .val (.ref o4), .unset, .unset, .unset, .unset, .unset, .unset, .unset, .unset, .unset, .unset] [(.int (0 : Int32)), (.ref o5), (.ref o5)])) _
    refine XS.iconst X9.here hx rfl (hb hby at_65) ?_
    show Steps p.tables e below (T9.setTop (mkF m 66 #[.val (.int p1), .val (.int p2), .val (.int uu), .val (.int dd), .val (.ref o1), .val (.ref o2), .val (.ref o3), .val (.ref o4), .unset, .unset, .unset, .unset, .unset, .unset, .unset, .unset, .unset, .unset] [(.int (0 : Int32)), (.int (0 : Int32)), (.ref o5), (.ref o5)])) _
    refine st10.trans ?_
    show Steps p.tables e below (T10.setTop (mkF m 69 #[.val (.int p1), .val (.int p2), .val (.int uu), .val (.int dd), .val (.ref o1), .val (.ref o2), .val (.ref o3), .val (.ref o4), .unset, .unset, .unset, .unset, .unset, .unset, .unset, .unset, .unset, .unset] [(.ref o5)])) _
    refine XS.astore X10.here hx rfl (hb hby at_69) rfl rfl (l' := #[.val (.int p1), .val (.int p2), .val (.int uu), .val (.int dd), .val (.ref o1), .val (.ref o2), .val (.ref o3), .val (.ref o4), .val (.ref o5), .unset, .unset, .unset, .unset, .unset, .unset, .unset, .unset, .unset]) rfl ?_
    show Steps p.tables e below (T10.setTop (mkF m 71 #[.val (.int p1), .val (.int p2), .val (.int uu), .val (.int dd), .val (.ref o1), .val (.ref o2), .val (.ref o3), .val (.ref o4), .val (.ref o5), .unset, .unset, .unset, .unset, .unset, .unset, .unset, .unset, .unset] [])) _
    refine XS.aload X10.here hx rfl (hb hby at_71) rfl rfl ?_
    show Steps p.tables e below (T10.setTop (mkF m 73 #[.val (.int p1), .val (.int p2), .val (.int uu), .val (.int dd), .val (.ref o1), .val (.ref o2), .val (.ref o3), .val (.ref o4), .val (.ref o5), .unset, .unset, .unset, .unset, .unset, .unset, .unset, .unset, .unset] [(.ref o1)])) _
    refine st11.trans ?_
    show Steps p.tables e below (T11.setTop (mkF m 76 #[.val (.int p1), .val (.int p2), .val (.int uu), .val (.int dd), .val (.ref o1), .val (.ref o2), .val (.ref o3), .val (.ref o4), .val (.ref o5), .unset, .unset, .unset, .unset, .unset, .unset, .unset, .unset, .unset] [(.int (own_rank uu dd))])) _
    refine XS.istore X11.here hx rfl (hb hby at_76) rfl (l' := #[.val (.int p1), .val (.int p2), .val (.int uu), .val (.int dd), .val (.ref o1), .val (.ref o2), .val (.ref o3), .val (.ref o4), .val (.ref o5), .val (.int (own_rank uu dd)), .unset, .unset, .unset, .unset, .unset, .unset, .unset, .unset]) rfl ?_
    show Steps p.tables e below (T11.setTop (mkF m 78 #[.val (.int p1), .val (.int p2), .val (.int uu), .val (.int dd), .val (.ref o1), .val (.ref o2), .val (.ref o3), .val (.ref o4), .val (.ref o5), .val (.int (own_rank uu dd)), .unset, .unset, .unset, .unset, .unset, .unset, .unset, .unset] [])) _
    refine XS.aload X11.here hx rfl (hb hby at_78) rfl rfl ?_
    show Steps p.tables e below (T11.setTop (mkF m 80 #[.val (.int p1), .val (.int p2), .val (.int uu), .val (.int dd), .val (.ref o1), .val (.ref o2), .val (.ref o3), .val (.ref o4), .val (.ref o5), .val (.int (own_rank uu dd)), .unset, .unset, .unset, .unset, .unset, .unset, .unset, .unset] [(.ref o2)])) _
    refine st12.trans ?_
    show Steps p.tables e below (T12.setTop (mkF m 83 #[.val (.int p1), .val (.int p2), .val (.int uu), .val (.int dd), .val (.ref o1), .val (.ref o2), .val (.ref o3), .val (.ref o4), .val (.ref o5), .val (.int (own_rank uu dd)), .unset, .unset, .unset, .unset, .unset, .unset, .unset, .unset] [(.int (own_rank dd uu))])) _
    refine XS.istore X12.here hx rfl (hb hby at_83) rfl (l' := #[.val (.int p1), .val (.int p2), .val (.int uu), .val (.int dd), .val (.ref o1), .val (.ref o2), .val (.ref o3), .val (.ref o4), .val (.ref o5), .val (.int (own_rank uu dd)), .val (.int (own_rank dd uu)), .unset, .unset, .unset, .unset, .unset, .unset, .unset]) rfl ?_
    show Steps p.tables e below (T12.setTop (mkF m 85 #[.val (.int p1), .val (.int p2), .val (.int uu), .val (.int dd), .val (.ref o1), .val (.ref o2), .val (.ref o3), .val (.ref o4), .val (.ref o5), .val (.int (own_rank uu dd)), .val (.int (own_rank dd uu)), .unset, .unset, .unset, .unset, .unset, .unset, .unset] [])) _
    refine XS.aload X12.here hx rfl (hb hby at_85) rfl rfl ?_
    show Steps p.tables e below (T12.setTop (mkF m 87 #[.val (.int p1), .val (.int p2), .val (.int uu), .val (.int dd), .val (.ref o1), .val (.ref o2), .val (.ref o3), .val (.ref o4), .val (.ref o5), .val (.int (own_rank uu dd)), .val (.int (own_rank dd uu)), .unset, .unset, .unset, .unset, .unset, .unset, .unset] [(.ref o3)])) _
    refine st13.trans ?_
    show Steps p.tables e below (T13.setTop (mkF m 90 #[.val (.int p1), .val (.int p2), .val (.int uu), .val (.int dd), .val (.ref o1), .val (.ref o2), .val (.ref o3), .val (.ref o4), .val (.ref o5), .val (.int (own_rank uu dd)), .val (.int (own_rank dd uu)), .unset, .unset, .unset, .unset, .unset, .unset, .unset] [(.int (own_rank (0 : Int32) dd))])) _
    refine XS.istore X13.here hx rfl (hb hby at_90) rfl (l' := #[.val (.int p1), .val (.int p2), .val (.int uu), .val (.int dd), .val (.ref o1), .val (.ref o2), .val (.ref o3), .val (.ref o4), .val (.ref o5), .val (.int (own_rank uu dd)), .val (.int (own_rank dd uu)), .val (.int (own_rank (0 : Int32) dd)), .unset, .unset, .unset, .unset, .unset, .unset]) rfl ?_
    show Steps p.tables e below (T13.setTop (mkF m 92 #[.val (.int p1), .val (.int p2), .val (.int uu), .val (.int dd), .val (.ref o1), .val (.ref o2), .val (.ref o3), .val (.ref o4), .val (.ref o5), .val (.int (own_rank uu dd)), .val (.int (own_rank dd uu)), .val (.int (own_rank (0 : Int32) dd)), .unset, .unset, .unset, .unset, .unset, .unset] [])) _
    refine XS.aload X13.here hx rfl (hb hby at_92) rfl rfl ?_
    show Steps p.tables e below (T13.setTop (mkF m 94 #[.val (.int p1), .val (.int p2), .val (.int uu), .val (.int dd), .val (.ref o1), .val (.ref o2), .val (.ref o3), .val (.ref o4), .val (.ref o5), .val (.int (own_rank uu dd)), .val (.int (own_rank dd uu)), .val (.int (own_rank (0 : Int32) dd)), .unset, .unset, .unset, .unset, .unset, .unset] [(.ref o4)])) _
    refine st14.trans ?_
    show Steps p.tables e below (T14.setTop (mkF m 97 #[.val (.int p1), .val (.int p2), .val (.int uu), .val (.int dd), .val (.ref o1), .val (.ref o2), .val (.ref o3), .val (.ref o4), .val (.ref o5), .val (.int (own_rank uu dd)), .val (.int (own_rank dd uu)), .val (.int (own_rank (0 : Int32) dd)), .unset, .unset, .unset, .unset, .unset, .unset] [(.int (own_rank dd (0 : Int32)))])) _
    refine XS.istore X14.here hx rfl (hb hby at_97) rfl (l' := #[.val (.int p1), .val (.int p2), .val (.int uu), .val (.int dd), .val (.ref o1), .val (.ref o2), .val (.ref o3), .val (.ref o4), .val (.ref o5), .val (.int (own_rank uu dd)), .val (.int (own_rank dd uu)), .val (.int (own_rank (0 : Int32) dd)), .val (.int (own_rank dd (0 : Int32))), .unset, .unset, .unset, .unset, .unset]) rfl ?_
    show Steps p.tables e below (T14.setTop (mkF m 99 #[.val (.int p1), .val (.int p2), .val (.int uu), .val (.int dd), .val (.ref o1), .val (.ref o2), .val (.ref o3), .val (.ref o4), .val (.ref o5), .val (.int (own_rank uu dd)), .val (.int (own_rank dd uu)), .val (.int (own_rank (0 : Int32) dd)), .val (.int (own_rank dd (0 : Int32))), .unset, .unset, .unset, .unset, .unset] [])) _
    refine XS.aload X14.here hx rfl (hb hby at_99) rfl rfl ?_
    show Steps p.tables e below (T14.setTop (mkF m 101 #[.val (.int p1), .val (.int p2), .val (.int uu), .val (.int dd), .val (.ref o1), .val (.ref o2), .val (.ref o3), .val (.ref o4), .val (.ref o5), .val (.int (own_rank uu dd)), .val (.int (own_rank dd uu)), .val (.int (own_rank (0 : Int32) dd)), .val (.int (own_rank dd (0 : Int32))), .unset, .unset, .unset, .unset, .unset] [(.ref o5)])) _
    refine st15.trans ?_
    show Steps p.tables e below (T15.setTop (mkF m 104 #[.val (.int p1), .val (.int p2), .val (.int uu), .val (.int dd), .val (.ref o1), .val (.ref o2), .val (.ref o3), .val (.ref o4), .val (.ref o5), .val (.int (own_rank uu dd)), .val (.int (own_rank dd uu)), .val (.int (own_rank (0 : Int32) dd)), .val (.int (own_rank dd (0 : Int32))), .unset, .unset, .unset, .unset, .unset] [(.int (own_rank (0 : Int32) (0 : Int32)))])) _
    refine XS.istore X15.here hx rfl (hb hby at_104) rfl (l' := #[.val (.int p1), .val (.int p2), .val (.int uu), .val (.int dd), .val (.ref o1), .val (.ref o2), .val (.ref o3), .val (.ref o4), .val (.ref o5), .val (.int (own_rank uu dd)), .val (.int (own_rank dd uu)), .val (.int (own_rank (0 : Int32) dd)), .val (.int (own_rank dd (0 : Int32))), .val (.int (own_rank (0 : Int32) (0 : Int32))), .unset, .unset, .unset, .unset]) rfl ?_
    show Steps p.tables e below (T15.setTop (mkF m 106 #[.val (.int p1), .val (.int p2), .val (.int uu), .val (.int dd), .val (.ref o1), .val (.ref o2), .val (.ref o3), .val (.ref o4), .val (.ref o5), .val (.int (own_rank uu dd)), .val (.int (own_rank dd uu)), .val (.int (own_rank (0 : Int32) dd)), .val (.int (own_rank dd (0 : Int32))), .val (.int (own_rank (0 : Int32) (0 : Int32))), .unset, .unset, .unset, .unset] [])) _
    refine XS.iload X15.here hx rfl (hb hby at_106) rfl ?_
    show Steps p.tables e below (T15.setTop (mkF m 108 #[.val (.int p1), .val (.int p2), .val (.int uu), .val (.int dd), .val (.ref o1), .val (.ref o2), .val (.ref o3), .val (.ref o4), .val (.ref o5), .val (.int (own_rank uu dd)), .val (.int (own_rank dd uu)), .val (.int (own_rank (0 : Int32) dd)), .val (.int (own_rank dd (0 : Int32))), .val (.int (own_rank (0 : Int32) (0 : Int32))), .unset, .unset, .unset, .unset] [(.int (own_rank uu dd))])) _
    refine XS.ifNo X15.here hx rfl (hb hby at_108) rfl ((if0 _ _).trans (flt (v1 : ¬ ((own_rank uu dd) < (0 : Int32)))).1) ?_
    show Steps p.tables e below (T15.setTop (mkF m 111 #[.val (.int p1), .val (.int p2), .val (.int uu), .val (.int dd), .val (.ref o1), .val (.ref o2), .val (.ref o3), .val (.ref o4), .val (.ref o5), .val (.int (own_rank uu dd)), .val (.int (own_rank dd uu)), .val (.int (own_rank (0 : Int32) dd)), .val (.int (own_rank dd (0 : Int32))), .val (.int (own_rank (0 : Int32) (0 : Int32))), .unset, .unset, .unset, .unset] [])) _
    refine XS.iload X15.here hx rfl (hb hby at_111) rfl ?_
    show Steps p.tables e below (T15.setTop (mkF m 113 #[.val (.int p1), .val (.int p2), .val (.int uu), .val (.int dd), .val (.ref o1), .val (.ref o2), .val (.ref o3), .val (.ref o4), .val (.ref o5), .val (.int (own_rank uu dd)), .val (.int (own_rank dd uu)), .val (.int (own_rank (0 : Int32) dd)), .val (.int (own_rank dd (0 : Int32))), .val (.int (own_rank (0 : Int32) (0 : Int32))), .unset, .unset, .unset, .unset] [(.int (own_rank uu dd))])) _
    refine XS.sipush X15.here hx rfl (hb hby at_113) ?_
    show Steps p.tables e below (T15.setTop (mkF m 116 #[.val (.int p1), .val (.int p2), .val (.int uu), .val (.int dd), .val (.ref o1), .val (.ref o2), .val (.ref o3), .val (.ref o4), .val (.ref o5), .val (.int (own_rank uu dd)), .val (.int (own_rank dd uu)), .val (.int (own_rank (0 : Int32) dd)), .val (.int (own_rank dd (0 : Int32))), .val (.int (own_rank (0 : Int32) (0 : Int32))), .unset, .unset, .unset, .unset] [(.int (200 : Int32)), (.int (own_rank uu dd))])) _
    refine XS.icmpNo X15.here hx rfl (hb hby at_116) rfl (flt (v2 : ¬ ((200 : Int32) < (own_rank uu dd)))).2.2.1 ?_
    show Steps p.tables e below (T15.setTop (mkF m 119 #[.val (.int p1), .val (.int p2), .val (.int uu), .val (.int dd), .val (.ref o1), .val (.ref o2), .val (.ref o3), .val (.ref o4), .val (.ref o5), .val (.int (own_rank uu dd)), .val (.int (own_rank dd uu)), .val (.int (own_rank (0 : Int32) dd)), .val (.int (own_rank dd (0 : Int32))), .val (.int (own_rank (0 : Int32) (0 : Int32))), .unset, .unset, .unset, .unset] [])) _
    refine XS.iconst X15.here hx rfl (hb hby at_119) ?_
    show Steps p.tables e below (T15.setTop (mkF m 120 #[.val (.int p1), .val (.int p2), .val (.int uu), .val (.int dd), .val (.ref o1), .val (.ref o2), .val (.ref o3), .val (.ref o4), .val (.ref o5), .val (.int (own_rank uu dd)), .val (.int (own_rank dd uu)), .val (.int (own_rank (0 : Int32) dd)), .val (.int (own_rank dd (0 : Int32))), .val (.int (own_rank (0 : Int32) (0 : Int32))), .unset, .unset, .unset, .unset] [(.int (1 : Int32))])) _
    refine XS.goto X15.here hx rfl (pc0 := 120) (pc' := 124) rfl (hb hby at_120) (by decide) (by decide) ?_
    show Steps p.tables e below (T15.setTop (mkF m 124 #[.val (.int p1), .val (.int p2), .val (.int uu), .val (.int dd), .val (.ref o1), .val (.ref o2), .val (.ref o3), .val (.ref o4), .val (.ref o5), .val (.int (own_rank uu dd)), .val (.int (own_rank dd uu)), .val (.int (own_rank (0 : Int32) dd)), .val (.int (own_rank dd (0 : Int32))), .val (.int (own_rank (0 : Int32) (0 : Int32))), .unset, .unset, .unset, .unset] [(.int (1 : Int32))])) _
    refine XS.istore X15.here hx rfl (hb hby at_124) rfl (l' := #[.val (.int p1), .val (.int p2), .val (.int uu), .val (.int dd), .val (.ref o1), .val (.ref o2), .val (.ref o3), .val (.ref o4), .val (.ref o5), .val (.int (own_rank uu dd)), .val (.int (own_rank dd uu)), .val (.int (own_rank (0 : Int32) dd)), .val (.int (own_rank dd (0 : Int32))), .val (.int (own_rank (0 : Int32) (0 : Int32))), .val (.int (1 : Int32)), .unset, .unset, .unset]) rfl ?_
    show Steps p.tables e below (T15.setTop (mkF m 126 #[.val (.int p1), .val (.int p2), .val (.int uu), .val (.int dd), .val (.ref o1), .val (.ref o2), .val (.ref o3), .val (.ref o4), .val (.ref o5), .val (.int (own_rank uu dd)), .val (.int (own_rank dd uu)), .val (.int (own_rank (0 : Int32) dd)), .val (.int (own_rank dd (0 : Int32))), .val (.int (own_rank (0 : Int32) (0 : Int32))), .val (.int (1 : Int32)), .unset, .unset, .unset] [])) _
    refine XS.iload X15.here hx rfl (hb hby at_126) rfl ?_
    show Steps p.tables e below (T15.setTop (mkF m 128 #[.val (.int p1), .val (.int p2), .val (.int uu), .val (.int dd), .val (.ref o1), .val (.ref o2), .val (.ref o3), .val (.ref o4), .val (.ref o5), .val (.int (own_rank uu dd)), .val (.int (own_rank dd uu)), .val (.int (own_rank (0 : Int32) dd)), .val (.int (own_rank dd (0 : Int32))), .val (.int (own_rank (0 : Int32) (0 : Int32))), .val (.int (1 : Int32)), .unset, .unset, .unset] [(.int (own_rank (0 : Int32) (0 : Int32)))])) _
    refine XS.bipush X15.here hx rfl (hb hby at_128) ?_
    show Steps p.tables e below (T15.setTop (mkF m 130 #[.val (.int p1), .val (.int p2), .val (.int uu), .val (.int dd), .val (.ref o1), .val (.ref o2), .val (.ref o3), .val (.ref o4), .val (.ref o5), .val (.int (own_rank uu dd)), .val (.int (own_rank dd uu)), .val (.int (own_rank (0 : Int32) dd)), .val (.int (own_rank dd (0 : Int32))), .val (.int (own_rank (0 : Int32) (0 : Int32))), .val (.int (1 : Int32)), .unset, .unset, .unset] [(.int (100 : Int32)), (.int (own_rank (0 : Int32) (0 : Int32)))])) _
    refine XS.icmpNo X15.here hx rfl (hb hby at_130) rfl (teq (v3 : (own_rank (0 : Int32) (0 : Int32)) = (100 : Int32))).2 ?_
    show Steps p.tables e below (T15.setTop (mkF m 133 #[.val (.int p1), .val (.int p2), .val (.int uu), .val (.int dd), .val (.ref o1), .val (.ref o2), .val (.ref o3), .val (.ref o4), .val (.ref o5), .val (.int (own_rank uu dd)), .val (.int (own_rank dd uu)), .val (.int (own_rank (0 : Int32) dd)), .val (.int (own_rank dd (0 : Int32))), .val (.int (own_rank (0 : Int32) (0 : Int32))), .val (.int (1 : Int32)), .unset, .unset, .unset] [])) _
    refine XS.iconst X15.here hx rfl (hb hby at_133) ?_
    show Steps p.tables e below (T15.setTop (mkF m 134 #[.val (.int p1), .val (.int p2), .val (.int uu), .val (.int dd), .val (.ref o1), .val (.ref o2), .val (.ref o3), .val (.ref o4), .val (.ref o5), .val (.int (own_rank uu dd)), .val (.int (own_rank dd uu)), .val (.int (own_rank (0 : Int32) dd)), .val (.int (own_rank dd (0 : Int32))), .val (.int (own_rank (0 : Int32) (0 : Int32))), .val (.int (1 : Int32)), .unset, .unset, .unset] [(.int (1 : Int32))])) _
    refine XS.goto X15.here hx rfl (pc0 := 134) (pc' := 138) rfl (hb hby at_134) (by decide) (by decide) ?_
    show Steps p.tables e below (T15.setTop (mkF m 138 #[.val (.int p1), .val (.int p2), .val (.int uu), .val (.int dd), .val (.ref o1), .val (.ref o2), .val (.ref o3), .val (.ref o4), .val (.ref o5), .val (.int (own_rank uu dd)), .val (.int (own_rank dd uu)), .val (.int (own_rank (0 : Int32) dd)), .val (.int (own_rank dd (0 : Int32))), .val (.int (own_rank (0 : Int32) (0 : Int32))), .val (.int (1 : Int32)), .unset, .unset, .unset] [(.int (1 : Int32))])) _
    refine XS.istore X15.here hx rfl (hb hby at_138) rfl (l' := #[.val (.int p1), .val (.int p2), .val (.int uu), .val (.int dd), .val (.ref o1), .val (.ref o2), .val (.ref o3), .val (.ref o4), .val (.ref o5), .val (.int (own_rank uu dd)), .val (.int (own_rank dd uu)), .val (.int (own_rank (0 : Int32) dd)), .val (.int (own_rank dd (0 : Int32))), .val (.int (own_rank (0 : Int32) (0 : Int32))), .val (.int (1 : Int32)), .val (.int (1 : Int32)), .unset, .unset]) rfl ?_
    show Steps p.tables e below (T15.setTop (mkF m 140 #[.val (.int p1), .val (.int p2), .val (.int uu), .val (.int dd), .val (.ref o1), .val (.ref o2), .val (.ref o3), .val (.ref o4), .val (.ref o5), .val (.int (own_rank uu dd)), .val (.int (own_rank dd uu)), .val (.int (own_rank (0 : Int32) dd)), .val (.int (own_rank dd (0 : Int32))), .val (.int (own_rank (0 : Int32) (0 : Int32))), .val (.int (1 : Int32)), .val (.int (1 : Int32)), .unset, .unset] [])) _
    refine XS.iload X15.here hx rfl (hb hby at_140) rfl ?_
    show Steps p.tables e below (T15.setTop (mkF m 142 #[.val (.int p1), .val (.int p2), .val (.int uu), .val (.int dd), .val (.ref o1), .val (.ref o2), .val (.ref o3), .val (.ref o4), .val (.ref o5), .val (.int (own_rank uu dd)), .val (.int (own_rank dd uu)), .val (.int (own_rank (0 : Int32) dd)), .val (.int (own_rank dd (0 : Int32))), .val (.int (own_rank (0 : Int32) (0 : Int32))), .val (.int (1 : Int32)), .val (.int (1 : Int32)), .unset, .unset] [(.int (own_rank uu dd))])) _
    refine XS.iload X15.here hx rfl (hb hby at_142) rfl ?_
    show Steps p.tables e below (T15.setTop (mkF m 144 #[.val (.int p1), .val (.int p2), .val (.int uu), .val (.int dd), .val (.ref o1), .val (.ref o2), .val (.ref o3), .val (.ref o4), .val (.ref o5), .val (.int (own_rank uu dd)), .val (.int (own_rank dd uu)), .val (.int (own_rank (0 : Int32) dd)), .val (.int (own_rank dd (0 : Int32))), .val (.int (own_rank (0 : Int32) (0 : Int32))), .val (.int (1 : Int32)), .val (.int (1 : Int32)), .unset, .unset] [(.int (own_rank dd uu)), (.int (own_rank uu dd))])) _
    refine XS.iadd X15.here hx rfl (hb hby at_144) rfl ?_
    show Steps p.tables e below (T15.setTop (mkF m 145 #[.val (.int p1), .val (.int p2), .val (.int uu), .val (.int dd), .val (.ref o1), .val (.ref o2), .val (.ref o3), .val (.ref o4), .val (.ref o5), .val (.int (own_rank uu dd)), .val (.int (own_rank dd uu)), .val (.int (own_rank (0 : Int32) dd)), .val (.int (own_rank dd (0 : Int32))), .val (.int (own_rank (0 : Int32) (0 : Int32))), .val (.int (1 : Int32)), .val (.int (1 : Int32)), .unset, .unset] [(.int ((own_rank uu dd) + (own_rank dd uu)))])) _
    refine XS.sipush X15.here hx rfl (hb hby at_145) ?_
    show Steps p.tables e below (T15.setTop (mkF m 148 #[.val (.int p1), .val (.int p2), .val (.int uu), .val (.int dd), .val (.ref o1), .val (.ref o2), .val (.ref o3), .val (.ref o4), .val (.ref o5), .val (.int (own_rank uu dd)), .val (.int (own_rank dd uu)), .val (.int (own_rank (0 : Int32) dd)), .val (.int (own_rank dd (0 : Int32))), .val (.int (own_rank (0 : Int32) (0 : Int32))), .val (.int (1 : Int32)), .val (.int (1 : Int32)), .unset, .unset] [(.int (200 : Int32)), (.int ((own_rank uu dd) + (own_rank dd uu)))])) _
    refine XS.icmpNo X15.here hx rfl (hb hby at_148) rfl (teq (v4 : ((own_rank uu dd) + (own_rank dd uu)) = (200 : Int32))).2 ?_
    show Steps p.tables e below (T15.setTop (mkF m 151 #[.val (.int p1), .val (.int p2), .val (.int uu), .val (.int dd), .val (.ref o1), .val (.ref o2), .val (.ref o3), .val (.ref o4), .val (.ref o5), .val (.int (own_rank uu dd)), .val (.int (own_rank dd uu)), .val (.int (own_rank (0 : Int32) dd)), .val (.int (own_rank dd (0 : Int32))), .val (.int (own_rank (0 : Int32) (0 : Int32))), .val (.int (1 : Int32)), .val (.int (1 : Int32)), .unset, .unset] [])) _
    refine XS.iload X15.here hx rfl (hb hby at_151) rfl ?_
    show Steps p.tables e below (T15.setTop (mkF m 153 #[.val (.int p1), .val (.int p2), .val (.int uu), .val (.int dd), .val (.ref o1), .val (.ref o2), .val (.ref o3), .val (.ref o4), .val (.ref o5), .val (.int (own_rank uu dd)), .val (.int (own_rank dd uu)), .val (.int (own_rank (0 : Int32) dd)), .val (.int (own_rank dd (0 : Int32))), .val (.int (own_rank (0 : Int32) (0 : Int32))), .val (.int (1 : Int32)), .val (.int (1 : Int32)), .unset, .unset] [(.int (own_rank (0 : Int32) dd))])) _
    refine XS.iload X15.here hx rfl (hb hby at_153) rfl ?_
    show Steps p.tables e below (T15.setTop (mkF m 155 #[.val (.int p1), .val (.int p2), .val (.int uu), .val (.int dd), .val (.ref o1), .val (.ref o2), .val (.ref o3), .val (.ref o4), .val (.ref o5), .val (.int (own_rank uu dd)), .val (.int (own_rank dd uu)), .val (.int (own_rank (0 : Int32) dd)), .val (.int (own_rank dd (0 : Int32))), .val (.int (own_rank (0 : Int32) (0 : Int32))), .val (.int (1 : Int32)), .val (.int (1 : Int32)), .unset, .unset] [(.int (own_rank dd (0 : Int32))), (.int (own_rank (0 : Int32) dd))])) _
    refine XS.iadd X15.here hx rfl (hb hby at_155) rfl ?_
    show Steps p.tables e below (T15.setTop (mkF m 156 #[.val (.int p1), .val (.int p2), .val (.int uu), .val (.int dd), .val (.ref o1), .val (.ref o2), .val (.ref o3), .val (.ref o4), .val (.ref o5), .val (.int (own_rank uu dd)), .val (.int (own_rank dd uu)), .val (.int (own_rank (0 : Int32) dd)), .val (.int (own_rank dd (0 : Int32))), .val (.int (own_rank (0 : Int32) (0 : Int32))), .val (.int (1 : Int32)), .val (.int (1 : Int32)), .unset, .unset] [(.int ((own_rank (0 : Int32) dd) + (own_rank dd (0 : Int32))))])) _
    refine XS.sipush X15.here hx rfl (hb hby at_156) ?_
    show Steps p.tables e below (T15.setTop (mkF m 159 #[.val (.int p1), .val (.int p2), .val (.int uu), .val (.int dd), .val (.ref o1), .val (.ref o2), .val (.ref o3), .val (.ref o4), .val (.ref o5), .val (.int (own_rank uu dd)), .val (.int (own_rank dd uu)), .val (.int (own_rank (0 : Int32) dd)), .val (.int (own_rank dd (0 : Int32))), .val (.int (own_rank (0 : Int32) (0 : Int32))), .val (.int (1 : Int32)), .val (.int (1 : Int32)), .unset, .unset] [(.int (200 : Int32)), (.int ((own_rank (0 : Int32) dd) + (own_rank dd (0 : Int32))))])) _
    refine XS.icmpNo X15.here hx rfl (hb hby at_159) rfl (teq (v5 : ((own_rank (0 : Int32) dd) + (own_rank dd (0 : Int32))) = (200 : Int32))).2 ?_
    show Steps p.tables e below (T15.setTop (mkF m 162 #[.val (.int p1), .val (.int p2), .val (.int uu), .val (.int dd), .val (.ref o1), .val (.ref o2), .val (.ref o3), .val (.ref o4), .val (.ref o5), .val (.int (own_rank uu dd)), .val (.int (own_rank dd uu)), .val (.int (own_rank (0 : Int32) dd)), .val (.int (own_rank dd (0 : Int32))), .val (.int (own_rank (0 : Int32) (0 : Int32))), .val (.int (1 : Int32)), .val (.int (1 : Int32)), .unset, .unset] [])) _
    refine XS.iconst X15.here hx rfl (hb hby at_162) ?_
    show Steps p.tables e below (T15.setTop (mkF m 163 #[.val (.int p1), .val (.int p2), .val (.int uu), .val (.int dd), .val (.ref o1), .val (.ref o2), .val (.ref o3), .val (.ref o4), .val (.ref o5), .val (.int (own_rank uu dd)), .val (.int (own_rank dd uu)), .val (.int (own_rank (0 : Int32) dd)), .val (.int (own_rank dd (0 : Int32))), .val (.int (own_rank (0 : Int32) (0 : Int32))), .val (.int (1 : Int32)), .val (.int (1 : Int32)), .unset, .unset] [(.int (1 : Int32))])) _
    refine XS.goto X15.here hx rfl (pc0 := 163) (pc' := 167) rfl (hb hby at_163) (by decide) (by decide) ?_
    show Steps p.tables e below (T15.setTop (mkF m 167 #[.val (.int p1), .val (.int p2), .val (.int uu), .val (.int dd), .val (.ref o1), .val (.ref o2), .val (.ref o3), .val (.ref o4), .val (.ref o5), .val (.int (own_rank uu dd)), .val (.int (own_rank dd uu)), .val (.int (own_rank (0 : Int32) dd)), .val (.int (own_rank dd (0 : Int32))), .val (.int (own_rank (0 : Int32) (0 : Int32))), .val (.int (1 : Int32)), .val (.int (1 : Int32)), .unset, .unset] [(.int (1 : Int32))])) _
    refine XS.istore X15.here hx rfl (hb hby at_167) rfl (l' := #[.val (.int p1), .val (.int p2), .val (.int uu), .val (.int dd), .val (.ref o1), .val (.ref o2), .val (.ref o3), .val (.ref o4), .val (.ref o5), .val (.int (own_rank uu dd)), .val (.int (own_rank dd uu)), .val (.int (own_rank (0 : Int32) dd)), .val (.int (own_rank dd (0 : Int32))), .val (.int (own_rank (0 : Int32) (0 : Int32))), .val (.int (1 : Int32)), .val (.int (1 : Int32)), .val (.int (1 : Int32)), .unset]) rfl ?_
    show Steps p.tables e below (T15.setTop (mkF m 169 #[.val (.int p1), .val (.int p2), .val (.int uu), .val (.int dd), .val (.ref o1), .val (.ref o2), .val (.ref o3), .val (.ref o4), .val (.ref o5), .val (.int (own_rank uu dd)), .val (.int (own_rank dd uu)), .val (.int (own_rank (0 : Int32) dd)), .val (.int (own_rank dd (0 : Int32))), .val (.int (own_rank (0 : Int32) (0 : Int32))), .val (.int (1 : Int32)), .val (.int (1 : Int32)), .val (.int (1 : Int32)), .unset] [])) _
    refine XS.iload X15.here hx rfl (hb hby at_169) rfl ?_
    show Steps p.tables e below (T15.setTop (mkF m 171 #[.val (.int p1), .val (.int p2), .val (.int uu), .val (.int dd), .val (.ref o1), .val (.ref o2), .val (.ref o3), .val (.ref o4), .val (.ref o5), .val (.int (own_rank uu dd)), .val (.int (own_rank dd uu)), .val (.int (own_rank (0 : Int32) dd)), .val (.int (own_rank dd (0 : Int32))), .val (.int (own_rank (0 : Int32) (0 : Int32))), .val (.int (1 : Int32)), .val (.int (1 : Int32)), .val (.int (1 : Int32)), .unset] [(.int (own_rank uu dd))])) _
    refine XS.iload X15.here hx rfl (hb hby at_171) rfl ?_
    show Steps p.tables e below (T15.setTop (mkF m 173 #[.val (.int p1), .val (.int p2), .val (.int uu), .val (.int dd), .val (.ref o1), .val (.ref o2), .val (.ref o3), .val (.ref o4), .val (.ref o5), .val (.int (own_rank uu dd)), .val (.int (own_rank dd uu)), .val (.int (own_rank (0 : Int32) dd)), .val (.int (own_rank dd (0 : Int32))), .val (.int (own_rank (0 : Int32) (0 : Int32))), .val (.int (1 : Int32)), .val (.int (1 : Int32)), .val (.int (1 : Int32)), .unset] [(.int (own_rank (0 : Int32) dd)), (.int (own_rank uu dd))])) _
    refine XS.isub X15.here hx rfl (hb hby at_173) rfl ?_
    show Steps p.tables e below (T15.setTop (mkF m 174 #[.val (.int p1), .val (.int p2), .val (.int uu), .val (.int dd), .val (.ref o1), .val (.ref o2), .val (.ref o3), .val (.ref o4), .val (.ref o5), .val (.int (own_rank uu dd)), .val (.int (own_rank dd uu)), .val (.int (own_rank (0 : Int32) dd)), .val (.int (own_rank dd (0 : Int32))), .val (.int (own_rank (0 : Int32) (0 : Int32))), .val (.int (1 : Int32)), .val (.int (1 : Int32)), .val (.int (1 : Int32)), .unset] [(.int ((own_rank uu dd) - (own_rank (0 : Int32) dd)))])) _
    refine XS.iloadN X15.here hx rfl (hb hby at_174) rfl ?_
    show Steps p.tables e below (T15.setTop (mkF m 175 #[.val (.int p1), .val (.int p2), .val (.int uu), .val (.int dd), .val (.ref o1), .val (.ref o2), .val (.ref o3), .val (.ref o4), .val (.ref o5), .val (.int (own_rank uu dd)), .val (.int (own_rank dd uu)), .val (.int (own_rank (0 : Int32) dd)), .val (.int (own_rank dd (0 : Int32))), .val (.int (own_rank (0 : Int32) (0 : Int32))), .val (.int (1 : Int32)), .val (.int (1 : Int32)), .val (.int (1 : Int32)), .unset] [(.int uu), (.int ((own_rank uu dd) - (own_rank (0 : Int32) dd)))])) _
    refine XS.icmpNo X15.here hx rfl (hb hby at_175) rfl (teq (v6 : ((own_rank uu dd) - (own_rank (0 : Int32) dd)) = uu)).2 ?_
    show Steps p.tables e below (T15.setTop (mkF m 178 #[.val (.int p1), .val (.int p2), .val (.int uu), .val (.int dd), .val (.ref o1), .val (.ref o2), .val (.ref o3), .val (.ref o4), .val (.ref o5), .val (.int (own_rank uu dd)), .val (.int (own_rank dd uu)), .val (.int (own_rank (0 : Int32) dd)), .val (.int (own_rank dd (0 : Int32))), .val (.int (own_rank (0 : Int32) (0 : Int32))), .val (.int (1 : Int32)), .val (.int (1 : Int32)), .val (.int (1 : Int32)), .unset] [])) _
    refine XS.iload X15.here hx rfl (hb hby at_178) rfl ?_
    show Steps p.tables e below (T15.setTop (mkF m 180 #[.val (.int p1), .val (.int p2), .val (.int uu), .val (.int dd), .val (.ref o1), .val (.ref o2), .val (.ref o3), .val (.ref o4), .val (.ref o5), .val (.int (own_rank uu dd)), .val (.int (own_rank dd uu)), .val (.int (own_rank (0 : Int32) dd)), .val (.int (own_rank dd (0 : Int32))), .val (.int (own_rank (0 : Int32) (0 : Int32))), .val (.int (1 : Int32)), .val (.int (1 : Int32)), .val (.int (1 : Int32)), .unset] [(.int (own_rank dd (0 : Int32)))])) _
    refine XS.iload X15.here hx rfl (hb hby at_180) rfl ?_
    show Steps p.tables e below (T15.setTop (mkF m 182 #[.val (.int p1), .val (.int p2), .val (.int uu), .val (.int dd), .val (.ref o1), .val (.ref o2), .val (.ref o3), .val (.ref o4), .val (.ref o5), .val (.int (own_rank uu dd)), .val (.int (own_rank dd uu)), .val (.int (own_rank (0 : Int32) dd)), .val (.int (own_rank dd (0 : Int32))), .val (.int (own_rank (0 : Int32) (0 : Int32))), .val (.int (1 : Int32)), .val (.int (1 : Int32)), .val (.int (1 : Int32)), .unset] [(.int (own_rank (0 : Int32) (0 : Int32))), (.int (own_rank dd (0 : Int32)))])) _
    refine XS.isub X15.here hx rfl (hb hby at_182) rfl ?_
    show Steps p.tables e below (T15.setTop (mkF m 183 #[.val (.int p1), .val (.int p2), .val (.int uu), .val (.int dd), .val (.ref o1), .val (.ref o2), .val (.ref o3), .val (.ref o4), .val (.ref o5), .val (.int (own_rank uu dd)), .val (.int (own_rank dd uu)), .val (.int (own_rank (0 : Int32) dd)), .val (.int (own_rank dd (0 : Int32))), .val (.int (own_rank (0 : Int32) (0 : Int32))), .val (.int (1 : Int32)), .val (.int (1 : Int32)), .val (.int (1 : Int32)), .unset] [(.int ((own_rank dd (0 : Int32)) - (own_rank (0 : Int32) (0 : Int32))))])) _
    refine XS.iloadN X15.here hx rfl (hb hby at_183) rfl ?_
    show Steps p.tables e below (T15.setTop (mkF m 184 #[.val (.int p1), .val (.int p2), .val (.int uu), .val (.int dd), .val (.ref o1), .val (.ref o2), .val (.ref o3), .val (.ref o4), .val (.ref o5), .val (.int (own_rank uu dd)), .val (.int (own_rank dd uu)), .val (.int (own_rank (0 : Int32) dd)), .val (.int (own_rank dd (0 : Int32))), .val (.int (own_rank (0 : Int32) (0 : Int32))), .val (.int (1 : Int32)), .val (.int (1 : Int32)), .val (.int (1 : Int32)), .unset] [(.int dd), (.int ((own_rank dd (0 : Int32)) - (own_rank (0 : Int32) (0 : Int32))))])) _
    refine XS.icmpNo X15.here hx rfl (hb hby at_184) rfl (teq (v7 : ((own_rank dd (0 : Int32)) - (own_rank (0 : Int32) (0 : Int32))) = dd)).2 ?_
    show Steps p.tables e below (T15.setTop (mkF m 187 #[.val (.int p1), .val (.int p2), .val (.int uu), .val (.int dd), .val (.ref o1), .val (.ref o2), .val (.ref o3), .val (.ref o4), .val (.ref o5), .val (.int (own_rank uu dd)), .val (.int (own_rank dd uu)), .val (.int (own_rank (0 : Int32) dd)), .val (.int (own_rank dd (0 : Int32))), .val (.int (own_rank (0 : Int32) (0 : Int32))), .val (.int (1 : Int32)), .val (.int (1 : Int32)), .val (.int (1 : Int32)), .unset] [])) _
    refine XS.iconst X15.here hx rfl (hb hby at_187) ?_
    show Steps p.tables e below (T15.setTop (mkF m 188 #[.val (.int p1), .val (.int p2), .val (.int uu), .val (.int dd), .val (.ref o1), .val (.ref o2), .val (.ref o3), .val (.ref o4), .val (.ref o5), .val (.int (own_rank uu dd)), .val (.int (own_rank dd uu)), .val (.int (own_rank (0 : Int32) dd)), .val (.int (own_rank dd (0 : Int32))), .val (.int (own_rank (0 : Int32) (0 : Int32))), .val (.int (1 : Int32)), .val (.int (1 : Int32)), .val (.int (1 : Int32)), .unset] [(.int (1 : Int32))])) _
    refine XS.goto X15.here hx rfl (pc0 := 188) (pc' := 192) rfl (hb hby at_188) (by decide) (by decide) ?_
    show Steps p.tables e below (T15.setTop (mkF m 192 #[.val (.int p1), .val (.int p2), .val (.int uu), .val (.int dd), .val (.ref o1), .val (.ref o2), .val (.ref o3), .val (.ref o4), .val (.ref o5), .val (.int (own_rank uu dd)), .val (.int (own_rank dd uu)), .val (.int (own_rank (0 : Int32) dd)), .val (.int (own_rank dd (0 : Int32))), .val (.int (own_rank (0 : Int32) (0 : Int32))), .val (.int (1 : Int32)), .val (.int (1 : Int32)), .val (.int (1 : Int32)), .unset] [(.int (1 : Int32))])) _
    refine XS.istore X15.here hx rfl (hb hby at_192) rfl (l' := #[.val (.int p1), .val (.int p2), .val (.int uu), .val (.int dd), .val (.ref o1), .val (.ref o2), .val (.ref o3), .val (.ref o4), .val (.ref o5), .val (.int (own_rank uu dd)), .val (.int (own_rank dd uu)), .val (.int (own_rank (0 : Int32) dd)), .val (.int (own_rank dd (0 : Int32))), .val (.int (own_rank (0 : Int32) (0 : Int32))), .val (.int (1 : Int32)), .val (.int (1 : Int32)), .val (.int (1 : Int32)), .val (.int (1 : Int32))]) rfl ?_
    show Steps p.tables e below (T15.setTop (mkF m 194 #[.val (.int p1), .val (.int p2), .val (.int uu), .val (.int dd), .val (.ref o1), .val (.ref o2), .val (.ref o3), .val (.ref o4), .val (.ref o5), .val (.int (own_rank uu dd)), .val (.int (own_rank dd uu)), .val (.int (own_rank (0 : Int32) dd)), .val (.int (own_rank dd (0 : Int32))), .val (.int (own_rank (0 : Int32) (0 : Int32))), .val (.int (1 : Int32)), .val (.int (1 : Int32)), .val (.int (1 : Int32)), .val (.int (1 : Int32))] [])) _
    refine XS.iload X15.here hx rfl (hb hby at_194) rfl ?_
    show Steps p.tables e below (T15.setTop (mkF m 196 #[.val (.int p1), .val (.int p2), .val (.int uu), .val (.int dd), .val (.ref o1), .val (.ref o2), .val (.ref o3), .val (.ref o4), .val (.ref o5), .val (.int (own_rank uu dd)), .val (.int (own_rank dd uu)), .val (.int (own_rank (0 : Int32) dd)), .val (.int (own_rank dd (0 : Int32))), .val (.int (own_rank (0 : Int32) (0 : Int32))), .val (.int (1 : Int32)), .val (.int (1 : Int32)), .val (.int (1 : Int32)), .val (.int (1 : Int32))] [(.int (1 : Int32))])) _
    refine XS.ifNo X15.here hx rfl (hb hby at_196) rfl ((if0 _ _).trans (feq (by decide : ¬ ((1 : Int32) = (0 : Int32)))).1) ?_
    show Steps p.tables e below (T15.setTop (mkF m 199 #[.val (.int p1), .val (.int p2), .val (.int uu), .val (.int dd), .val (.ref o1), .val (.ref o2), .val (.ref o3), .val (.ref o4), .val (.ref o5), .val (.int (own_rank uu dd)), .val (.int (own_rank dd uu)), .val (.int (own_rank (0 : Int32) dd)), .val (.int (own_rank dd (0 : Int32))), .val (.int (own_rank (0 : Int32) (0 : Int32))), .val (.int (1 : Int32)), .val (.int (1 : Int32)), .val (.int (1 : Int32)), .val (.int (1 : Int32))] [])) _
    refine XS.iload X15.here hx rfl (hb hby at_199) rfl ?_
    show Steps p.tables e below (T15.setTop (mkF m 201 #[.val (.int p1), .val (.int p2), .val (.int uu), .val (.int dd), .val (.ref o1), .val (.ref o2), .val (.ref o3), .val (.ref o4), .val (.ref o5), .val (.int (own_rank uu dd)), .val (.int (own_rank dd uu)), .val (.int (own_rank (0 : Int32) dd)), .val (.int (own_rank dd (0 : Int32))), .val (.int (own_rank (0 : Int32) (0 : Int32))), .val (.int (1 : Int32)), .val (.int (1 : Int32)), .val (.int (1 : Int32)), .val (.int (1 : Int32))] [(.int (1 : Int32))])) _
    refine XS.ifNo X15.here hx rfl (hb hby at_201) rfl ((if0 _ _).trans (feq (by decide : ¬ ((1 : Int32) = (0 : Int32)))).1) ?_
    show Steps p.tables e below (T15.setTop (mkF m 204 #[.val (.int p1), .val (.int p2), .val (.int uu), .val (.int dd), .val (.ref o1), .val (.ref o2), .val (.ref o3), .val (.ref o4), .val (.ref o5), .val (.int (own_rank uu dd)), .val (.int (own_rank dd uu)), .val (.int (own_rank (0 : Int32) dd)), .val (.int (own_rank dd (0 : Int32))), .val (.int (own_rank (0 : Int32) (0 : Int32))), .val (.int (1 : Int32)), .val (.int (1 : Int32)), .val (.int (1 : Int32)), .val (.int (1 : Int32))] [])) _
    refine XS.iload X15.here hx rfl (hb hby at_204) rfl ?_
    show Steps p.tables e below (T15.setTop (mkF m 206 #[.val (.int p1), .val (.int p2), .val (.int uu), .val (.int dd), .val (.ref o1), .val (.ref o2), .val (.ref o3), .val (.ref o4), .val (.ref o5), .val (.int (own_rank uu dd)), .val (.int (own_rank dd uu)), .val (.int (own_rank (0 : Int32) dd)), .val (.int (own_rank dd (0 : Int32))), .val (.int (own_rank (0 : Int32) (0 : Int32))), .val (.int (1 : Int32)), .val (.int (1 : Int32)), .val (.int (1 : Int32)), .val (.int (1 : Int32))] [(.int (1 : Int32))])) _
    refine XS.ifNo X15.here hx rfl (hb hby at_206) rfl ((if0 _ _).trans (feq (by decide : ¬ ((1 : Int32) = (0 : Int32)))).1) ?_
    show Steps p.tables e below (T15.setTop (mkF m 209 #[.val (.int p1), .val (.int p2), .val (.int uu), .val (.int dd), .val (.ref o1), .val (.ref o2), .val (.ref o3), .val (.ref o4), .val (.ref o5), .val (.int (own_rank uu dd)), .val (.int (own_rank dd uu)), .val (.int (own_rank (0 : Int32) dd)), .val (.int (own_rank dd (0 : Int32))), .val (.int (own_rank (0 : Int32) (0 : Int32))), .val (.int (1 : Int32)), .val (.int (1 : Int32)), .val (.int (1 : Int32)), .val (.int (1 : Int32))] [])) _
    refine XS.iload X15.here hx rfl (hb hby at_209) rfl ?_
    show Steps p.tables e below (T15.setTop (mkF m 211 #[.val (.int p1), .val (.int p2), .val (.int uu), .val (.int dd), .val (.ref o1), .val (.ref o2), .val (.ref o3), .val (.ref o4), .val (.ref o5), .val (.int (own_rank uu dd)), .val (.int (own_rank dd uu)), .val (.int (own_rank (0 : Int32) dd)), .val (.int (own_rank dd (0 : Int32))), .val (.int (own_rank (0 : Int32) (0 : Int32))), .val (.int (1 : Int32)), .val (.int (1 : Int32)), .val (.int (1 : Int32)), .val (.int (1 : Int32))] [(.int (1 : Int32))])) _
    refine XS.ifNo X15.here hx rfl (hb hby at_211) rfl ((if0 _ _).trans (feq (by decide : ¬ ((1 : Int32) = (0 : Int32)))).1) ?_
    show Steps p.tables e below (T15.setTop (mkF m 214 #[.val (.int p1), .val (.int p2), .val (.int uu), .val (.int dd), .val (.ref o1), .val (.ref o2), .val (.ref o3), .val (.ref o4), .val (.ref o5), .val (.int (own_rank uu dd)), .val (.int (own_rank dd uu)), .val (.int (own_rank (0 : Int32) dd)), .val (.int (own_rank dd (0 : Int32))), .val (.int (own_rank (0 : Int32) (0 : Int32))), .val (.int (1 : Int32)), .val (.int (1 : Int32)), .val (.int (1 : Int32)), .val (.int (1 : Int32))] [])) _
    refine XS.iconst X15.here hx rfl (hb hby at_214) ?_
    show Steps p.tables e below (T15.setTop (mkF m 215 #[.val (.int p1), .val (.int p2), .val (.int uu), .val (.int dd), .val (.ref o1), .val (.ref o2), .val (.ref o3), .val (.ref o4), .val (.ref o5), .val (.int (own_rank uu dd)), .val (.int (own_rank dd uu)), .val (.int (own_rank (0 : Int32) dd)), .val (.int (own_rank dd (0 : Int32))), .val (.int (own_rank (0 : Int32) (0 : Int32))), .val (.int (1 : Int32)), .val (.int (1 : Int32)), .val (.int (1 : Int32)), .val (.int (1 : Int32))] [(.int (1 : Int32))])) _
    refine XS.goto X15.here hx rfl (pc0 := 215) (pc' := 219) rfl (hb hby at_215) (by decide) (by decide) ?_
    show Steps p.tables e below (T15.setTop (mkF m 219 #[.val (.int p1), .val (.int p2), .val (.int uu), .val (.int dd), .val (.ref o1), .val (.ref o2), .val (.ref o3), .val (.ref o4), .val (.ref o5), .val (.int (own_rank uu dd)), .val (.int (own_rank dd uu)), .val (.int (own_rank (0 : Int32) dd)), .val (.int (own_rank dd (0 : Int32))), .val (.int (own_rank (0 : Int32) (0 : Int32))), .val (.int (1 : Int32)), .val (.int (1 : Int32)), .val (.int (1 : Int32)), .val (.int (1 : Int32))] [(.int (1 : Int32))])) _
    exact retN X15 hx (t := .boolean) Bd.returns (by simp) (hb hby at_219) hr
  · show Q0 Z p1 p2  h0 n0 _ T15.heap _
    rw [e15]
    exact ⟨rfl, N15⟩

set_option maxRecDepth 65536 in
set_option maxHeartbeats 40000000 in
theorem comes_1 {Post : Tables → Env → Array Value → State → Outcome → State → Prop} (hpost : ∀ tb e args s v u, (limb_1_1.after args s (.returned v) u = true ∧ limb_1_2.after args s (.returned v) u = true ∧ True) → ReturnedEndW s (.returned v) u (Jvm.fieldLocs frame_1_writes args s ++ Jvm.arrayLocs frame_1_arrays args s ++ Jvm.staticLocs frame_1_statics s) 24 2176 → Post tb e args s (.returned v) u) :
    ArmFor flags0 classFile x code maxLocals ret World_1 tables_1 room_1 Calls_1 rest_1 Pre_1 Post := by
  intro l hfl _ _ p e ha hc hk s m args below hf hA hF happ hP
  obtain ⟨hcalls, hrest, hpre⟩ := hP
  obtain ⟨-, -, -, hnamed, -, -, -, hat⟩ := (Spec.applies_iff hf).mp happ
  obtain ⟨hg, hn⟩ := and_e (Cond.before_iff.mp (show (Jvm.Cond.and given_1 narrow_1).before args s = true from hpre))
  obtain ⟨g0, k0⟩ := and_e hg
  obtain ⟨g1, k1⟩ := and_e k0
  obtain ⟨w0, w1, rfl⟩ : ∃ w0 w1 : Value, args = #[w0, w1] := by
    have hs : args.size = 2 := by simpa [Cond.value, given_1] using g0
    obtain ⟨L⟩ := args
    match L, hs with
    | [w0, w1], _ => exact ⟨w0, w1, rfl⟩
  have hw := fun d (hd : d ∈ tables_1) => atoms_spec (ws := Jvm.Cond.code x code maxLocals ret :: tables_1) hat d (List.mem_cons_of_mem _ hd)
  obtain ⟨i0, ei0⟩ := is_v g1
  obtain rfl : w0 = (.int i0) := Option.some.inj ei0
  obtain ⟨i1, ei1⟩ := is_v k1
  obtain rfl : w1 = (.int i1) := Option.some.inj ei1
  obtain ⟨n, o, h1, h2, h3, _, L, rfl, ⟨rfl, N⟩, hq⟩ := rm0 l s _ hw tables_1 i0 i1 s.heap s.heap.size (Nat.le_refl _) p e ha hc hk s m _ below hf ((Spec.applies_iff_loose hf).mp happ).1 ⟨rfl, State.Warmed39.refl s, rfl⟩ trivial
  refine ⟨n, _, h1, h2, h3, hpost _ _ _ _ _ _ ⟨Cond.after_iff.mpr rfl, Cond.after_iff.mpr (eq_i res_at (Term.int_eval (1)) rfl), trivial⟩ ⟨hq.1, hq.2.1, hq.2.2.1, (hq.2.2.2.sift fun y hy => Or.inr (N y hy)).mono (by decide) (by decide)⟩⟩
theorem main_1_1 : Claimed_1_1 := comes_1 fun _ _ _ _ _ _ h hF => ⟨h.1, hF⟩
theorem main_1_2 : Claimed_1_2 := comes_1 fun _ _ _ _ _ _ h hF => ⟨h.2.1, hF⟩

end Jvm.Pilot.@@N@@
namespace Jvm.Pilot.@@N@@
open Jvm Jvm.ClassFile Sem Op Lib Jvm.Free Jvm.Stand Jvm.Pilot.@@N@@.Jvm.D
/-! MADE BY PROGRAM (witnessworld.py) out of the Statement's table words and the real class files: 15 classes; the members and pool entries that the words name. The judged class is class 1, her method 1. -/
namespace start1
open Jvm.ClassFile
def u (s : String) : CpInfo := .utf8 (stringToUtf16 s)
/-- a pool by its gaps: so many unusable entries, then the entry; so many at the end -/
def gap : Nat → List CpInfo → List CpInfo
  | 0, r => r
  | n + 1, r => .unusable :: gap n r
def poolList (es : List (Nat × CpInfo)) (last : Nat) : List CpInfo := es.foldr (fun e r => gap e.1 (e.2 :: r)) (gap last [])
def pool (es : List (Nat × CpInfo)) (last : Nat) : Array CpInfo := ⟨poolList es last⟩
def fileOf (pool : Array CpInfo) (this : Nat) (attrs : Array Attribute := #[]) (ms : Array MethodInfo := #[]) (fl : Nat := 33) (sup : Nat := 0) (ifs : Array Nat := #[]) (fds : Array FieldInfo := #[]) : ClassFile where
  minorVersion := 0
  majorVersion := 65
  constantPool := pool
  accessFlags := fl
  thisClass := this
  superClass := sup
  interfaces := ifs
  fields := fds
  methods := ms
  attributes := attrs
def plain (name : String) (sup : Option ClassId) : Class where
  name := name
  kind := .ordinary
  loader := none
  accessFlags := 33
  super := sup
  interfaces := #[]
  cf := none
  fields := #[]
  methods := #[]
  instanceTypes := #[]
  staticTypes := #[]
  resolved := #[]
  callSites := []
  init := .initialized
  statics := none
  mirror := none

def pool0 : Array CpInfo := pool [(5, u "<init>"), (0, u "()V"), (1, .class_ 10), (1, u "java/lang/Object")] 113

def k0c0 : Code := { maxStack := 0, maxLocals := 1, code := object_method_1_code, exceptionTable := #[], attributes := #[] }
def k0m0 : Method := { name := "<init>", desc := "()V", sig := { parameters := [], returnType := none }, accessFlags := 1, code := some k0c0 }
/-- java/lang/Object -/
def k0 : Class := { plain "java/lang/Object" none with
  accessFlags := 33
  interfaces := #[]
  cf := some (fileOf pool0 8 #[] #[{ accessFlags := 1, nameIndex := 5, descriptorIndex := 6, attributes := #[] }] 33 0 #[] #[])
  fields := #[]
  methods := #[k0m0]
  instanceTypes := #[]
  staticTypes := #[]
  resolved := Array.replicate 124 none
  statics := none }

def pool1 : Array CpInfo := pool [(2, .class_ 4), (1, u "java/lang/Object"), (0, u "<init>"), (0, u "()V"), (0, .integer 2147483647), (0, .class_ 9), (0, u "com/example/equate/equate/VoteRank"), (0, .methodref 8 11), (0, .nameAndType 5 12), (0, u "(II)V"), (0, .methodref 8 14), (0, .nameAndType 15 16), (0, u "rank"), (0, u "()I"), (0, .class_ 18), (0, u "com/example/equate/equate/VoteRankRankPinLaw"), (2, u "law"), (0, u "(II)Z")] 3

def k1m0 : Method := { name := "<init>", desc := "()V", sig := { parameters := [], returnType := none }, accessFlags := 1, code := none }
def k1c1 : Code := { maxStack := 4, maxLocals := 18, code := code, exceptionTable := #[], attributes := #[] }
def k1m1 : Method := { name := "law", desc := "(II)Z", sig := { parameters := [.int, .int], returnType := some .boolean }, accessFlags := 9, code := some k1c1 }
/-- com/example/equate/equate/VoteRankRankPinLaw -/
def k1 : Class := { plain "com/example/equate/equate/VoteRankRankPinLaw" (some 0) with
  accessFlags := 49
  interfaces := #[]
  cf := some (fileOf pool1 17 #[] #[{ accessFlags := 1, nameIndex := 5, descriptorIndex := 6, attributes := #[] }, { accessFlags := 9, nameIndex := 21, descriptorIndex := 22, attributes := #[] }] 49 2 #[] #[])
  fields := #[]
  methods := #[k1m0, k1m1]
  instanceTypes := #[]
  staticTypes := #[]
  resolved := Array.replicate 26 none
  statics := none }

def pool2 : Array CpInfo := pool [(1, .methodref 2 3), (0, .class_ 4), (0, .nameAndType 5 6), (0, u "java/lang/Object"), (0, u "<init>"), (0, u "()V"), (0, .class_ 8), (0, u "java/lang/Record")] 13

def k2c0 : Code := { maxStack := 1, maxLocals := 1, code := jdk_30_method_1_code, exceptionTable := #[], attributes := #[] }
def k2m0 : Method := { name := "<init>", desc := "()V", sig := { parameters := [], returnType := none }, accessFlags := 4, code := some k2c0 }
/-- java/lang/Record -/
def k2 : Class := { plain "java/lang/Record" (some 0) with
  accessFlags := 1057
  interfaces := #[]
  cf := some (fileOf pool2 7 #[] #[{ accessFlags := 4, nameIndex := 5, descriptorIndex := 6, attributes := #[] }] 1057 2 #[] #[])
  fields := #[]
  methods := #[k2m0]
  instanceTypes := #[]
  staticTypes := #[]
  resolved := Array.replicate 22 none
  statics := none }

def pool3 : Array CpInfo := pool [(1, .methodref 2 3), (0, .class_ 4), (0, .nameAndType 5 6), (0, u "java/lang/Record"), (0, u "<init>"), (0, u "()V"), (0, .string 8), (0, u "thumbsUp"), (0, .methodref 10 11), (0, .class_ 12), (0, .nameAndType 13 14), (0, u "com/example/equate/equate/VoteRank"), (0, u "requirePercentage"), (0, u "(Ljava/lang/String;I)V"), (0, .string 16), (0, u "thumbsDown"), (0, .fieldref 10 18), (0, .nameAndType 8 19), (0, u "I"), (0, .fieldref 10 21), (0, .nameAndType 16 19), (23, u "(II)V"), (28, u "rank"), (0, u "()I")] 23

def k3c0 : Code := { maxStack := 2, maxLocals := 3, code := prog_3_method_1_code, exceptionTable := #[], attributes := #[] }
def k3m0 : Method := { name := "<init>", desc := "(II)V", sig := { parameters := [.int, .int], returnType := none }, accessFlags := 1, code := some k3c0 }
def k3c1 : Code := { maxStack := 2, maxLocals := 1, code := prog_3_method_3_code, exceptionTable := #[], attributes := #[] }
def k3m1 : Method := { name := "rank", desc := "()I", sig := { parameters := [], returnType := some .int }, accessFlags := 1, code := some k3c1 }
def k3c2 : Code := { maxStack := 7, maxLocals := 2, code := prog_3_method_5_code, exceptionTable := #[], attributes := #[] }
def k3m2 : Method := { name := "requirePercentage", desc := "(Ljava/lang/String;I)V", sig := { parameters := [(.object "java/lang/String"), .int], returnType := none }, accessFlags := 10, code := some k3c2 }
/-- com/example/equate/equate/VoteRank -/
def k3 : Class := { plain "com/example/equate/equate/VoteRank" (some 2) with
  accessFlags := 49
  interfaces := #[]
  cf := some (fileOf pool3 10 #[] #[{ accessFlags := 1, nameIndex := 5, descriptorIndex := 45, attributes := #[] }, { accessFlags := 1, nameIndex := 74, descriptorIndex := 75, attributes := #[] }, { accessFlags := 10, nameIndex := 13, descriptorIndex := 14, attributes := #[] }] 49 2 #[] #[{ accessFlags := 18, nameIndex := 8, descriptorIndex := 19, attributes := #[] }, { accessFlags := 18, nameIndex := 16, descriptorIndex := 19, attributes := #[] }])
  fields := #[{ name := "thumbsUp", type := .int, accessFlags := 18, slot := 0, constantValue := 0 }, { name := "thumbsDown", type := .int, accessFlags := 18, slot := 1, constantValue := 0 }]
  methods := #[k3m0, k3m1, k3m2]
  instanceTypes := #[.int, .int]
  staticTypes := #[]
  resolved := Array.replicate 99 none
  statics := none }

def pool4 : Array CpInfo := pool [(1, .class_ 2), (0, u "java/io/Serializable"), (0, .class_ 4), (0, u "java/lang/Object")] 2

/-- java/io/Serializable -/
def k4 : Class := { plain "java/io/Serializable" (some 0) with
  accessFlags := 1537
  interfaces := #[]
  cf := some (fileOf pool4 1 #[] #[] 1537 3 #[] #[])
  fields := #[]
  methods := #[]
  instanceTypes := #[]
  staticTypes := #[]
  resolved := Array.replicate 7 none
  statics := none }

def pool5 : Array CpInfo := pool [(1, .class_ 2), (0, u "java/lang/Comparable"), (0, .class_ 4), (0, u "java/lang/Object")] 7

/-- java/lang/Comparable -/
def k5 : Class := { plain "java/lang/Comparable" (some 0) with
  accessFlags := 1537
  interfaces := #[]
  cf := some (fileOf pool5 1 #[] #[] 1537 3 #[] #[])
  fields := #[]
  methods := #[]
  instanceTypes := #[]
  staticTypes := #[]
  resolved := Array.replicate 12 none
  statics := none }

def pool6 : Array CpInfo := pool [(2, .class_ 4), (1, u "java/lang/CharSequence"), (42, .class_ 48), (0, u "java/lang/CharSequence$1CodePointIterator"), (10, .class_ 60), (0, u "java/lang/CharSequence$1CharIterator"), (5, .class_ 67), (0, u "java/lang/Object")] 63

/-- java/lang/CharSequence -/
def k6 : Class := { plain "java/lang/CharSequence" (some 0) with
  accessFlags := 1537
  interfaces := #[]
  cf := some (fileOf pool6 2 #[.nestMembers #[47, 59]] #[] 1537 66 #[] #[])
  fields := #[]
  methods := #[]
  instanceTypes := #[]
  staticTypes := #[]
  resolved := Array.replicate 131 none
  statics := none }

def pool7 : Array CpInfo := pool [(1, .class_ 2), (0, u "java/lang/constant/Constable"), (0, .class_ 4), (0, u "java/lang/Object")] 6

/-- java/lang/constant/Constable -/
def k7 : Class := { plain "java/lang/constant/Constable" (some 0) with
  accessFlags := 1537
  interfaces := #[]
  cf := some (fileOf pool7 1 #[] #[] 1537 3 #[] #[])
  fields := #[]
  methods := #[]
  instanceTypes := #[]
  staticTypes := #[]
  resolved := Array.replicate 11 none
  statics := none }

def pool8 : Array CpInfo := pool [(1, .class_ 2), (0, u "java/lang/constant/ConstantDesc"), (0, .class_ 4), (0, u "java/lang/Object")] 32

/-- java/lang/constant/ConstantDesc -/
def k8 : Class := { plain "java/lang/constant/ConstantDesc" (some 0) with
  accessFlags := 1537
  interfaces := #[]
  cf := some (fileOf pool8 1 #[] #[] 1537 3 #[] #[])
  fields := #[]
  methods := #[]
  instanceTypes := #[]
  staticTypes := #[]
  resolved := Array.replicate 37 none
  statics := none }

def pool9 : Array CpInfo := pool [(2, .class_ 4), (1, u "java/lang/Object"), (0, u "<init>"), (0, u "()V"), (3, .class_ 12), (1, u "java/lang/String"), (0, u "value"), (0, u "[B"), (2, u "coder"), (0, u "B"), (2, u "hash"), (0, u "I"), (2, u "hashIsZero"), (0, u "Z"), (13, u "COMPACT_STRINGS"), (534, .class_ 576), (0, u "java/lang/CharSequence"), (22, u "CASE_INSENSITIVE_ORDER"), (0, u "Ljava/util/Comparator;"), (500, u "serialPersistentFields"), (0, u "[Ljava/io/ObjectStreamField;"), (0, .class_ 1104), (0, u "java/lang/String$CaseInsensitiveComparator"), (1, .class_ 1107), (0, u "java/io/Serializable"), (0, .class_ 1109), (0, u "java/lang/Comparable"), (0, .class_ 1111), (0, u "java/lang/constant/Constable"), (0, .class_ 1113), (0, u "java/lang/constant/ConstantDesc"), (2, u "serialVersionUID"), (0, u "J"), (3, u "REPL"), (0, u "C"), (2, u "LATIN1"), (1, u "UTF16")] 323

def k9m0 : Method := { name := "<init>", desc := "()V", sig := { parameters := [], returnType := none }, accessFlags := 1, code := none }
/-- java/lang/String -/
def k9 : Class := { plain "java/lang/String" (some 0) with
  accessFlags := 49
  interfaces := #[4, 5, 6, 7, 8]
  cf := some (fileOf pool9 10 #[.nestMembers #[1103]] #[{ accessFlags := 1, nameIndex := 5, descriptorIndex := 6, attributes := #[] }] 49 2 #[1106, 1108, 575, 1110, 1112] #[{ accessFlags := 18, nameIndex := 13, descriptorIndex := 14, attributes := #[] }, { accessFlags := 18, nameIndex := 17, descriptorIndex := 18, attributes := #[] }, { accessFlags := 2, nameIndex := 21, descriptorIndex := 22, attributes := #[] }, { accessFlags := 2, nameIndex := 25, descriptorIndex := 26, attributes := #[] }, { accessFlags := 26, nameIndex := 1116, descriptorIndex := 1117, attributes := #[] }, { accessFlags := 24, nameIndex := 40, descriptorIndex := 26, attributes := #[] }, { accessFlags := 26, nameIndex := 1101, descriptorIndex := 1102, attributes := #[] }, { accessFlags := 26, nameIndex := 1121, descriptorIndex := 1122, attributes := #[] }, { accessFlags := 25, nameIndex := 599, descriptorIndex := 600, attributes := #[] }, { accessFlags := 24, nameIndex := 1125, descriptorIndex := 18, attributes := #[] }, { accessFlags := 24, nameIndex := 1127, descriptorIndex := 18, attributes := #[] }])
  fields := #[{ name := "value", type := (.array .byte), accessFlags := 18, slot := 0, constantValue := 0 }, { name := "coder", type := .byte, accessFlags := 18, slot := 1, constantValue := 0 }, { name := "hash", type := .int, accessFlags := 2, slot := 2, constantValue := 0 }, { name := "hashIsZero", type := .boolean, accessFlags := 2, slot := 3, constantValue := 0 }, { name := "serialVersionUID", type := .long, accessFlags := 26, slot := 0, constantValue := 0 }, { name := "COMPACT_STRINGS", type := .boolean, accessFlags := 24, slot := 1, constantValue := 0 }, { name := "serialPersistentFields", type := (.array (.object "java/io/ObjectStreamField")), accessFlags := 26, slot := 2, constantValue := 0 }, { name := "REPL", type := .char, accessFlags := 26, slot := 3, constantValue := 0 }, { name := "CASE_INSENSITIVE_ORDER", type := (.object "java/util/Comparator"), accessFlags := 25, slot := 4, constantValue := 0 }, { name := "LATIN1", type := .byte, accessFlags := 24, slot := 5, constantValue := 0 }, { name := "UTF16", type := .byte, accessFlags := 24, slot := 6, constantValue := 0 }]
  methods := #[k9m0]
  instanceTypes := #[(.array .byte), .byte, .int, .boolean]
  staticTypes := #[.long, .boolean, (.array (.object "java/io/ObjectStreamField")), .char, (.object "java/util/Comparator"), .byte, .byte]
  resolved := Array.replicate 1451 none
  statics := none }

def pool10 : Array CpInfo := pool [(1, u "java/lang/Cloneable"), (0, .class_ 1), (0, u "java/lang/Object"), (0, .class_ 3)] 3

/-- java/lang/Cloneable -/
def k10 : Class := { plain "java/lang/Cloneable" (some 0) with
  accessFlags := 1537
  interfaces := #[]
  cf := some (fileOf pool10 2 #[] #[] 1537 4 #[] #[])
  fields := #[]
  methods := #[]
  instanceTypes := #[]
  staticTypes := #[]
  resolved := Array.replicate 8 none
  statics := none }

/-- the primitive byte -/
def k11 : Class := { plain "byte" none with kind := .primitive 'B', accessFlags := 0x411 }
/-- [B -/
def k12 : Class := { plain "[B" (some 0) with kind := .array 11 .byte, interfaces := #[10, 4], accessFlags := 1041 }

/-- the primitive int -/
def k13 : Class := { plain "int" none with kind := .primitive 'I', accessFlags := 0x411 }
/-- [I -/
def k14 : Class := { plain "[I" (some 0) with kind := .array 13 .int, interfaces := #[10, 4], accessFlags := 1041 }

def heap : Heap := #[]
def classes : Array Class := #[k0, k1, k2, k3, k4, k5, k6, k7, k8, k9, k10, k11, k12, k13, k14]
def interned : List (Array UInt16 × Addr) := []
def slotsUsed : Nat := 0
def theMethod : MethodId := ⟨1, 1⟩
def args0 : Array Value := #[.int 5, .int 3]
def aboutOver (below : List Frame) : State where
  vm := { classes := classes, interned := interned.toArray }
  heap := heap
  slotsUsed := slotsUsed
  threads := #[{ frames := .invoking theMethod args0 :: below }]
def below0 : List Frame := [.native { method := ⟨0, 0⟩, args := #[] }]
def about1 : State := aboutOver below0
def p0 : Program := .bare "" "" ""
def e0 : Env := launch0.env 0 0 0
theorem w_frames : about1.frames = Frame.invoking theMethod args0 :: below0 := rfl
set_option maxRecDepth 65536 in
theorem w_args : argsFit about1.vm theMethod args0 = true := by decide +kernel
set_option maxRecDepth 65536 in
theorem w_heap : heapFits about1 = true := by decide +kernel
set_option maxRecDepth 65536 in
theorem w_runnable : about1.curStatus? = some .runnable := by decide +kernel
set_option maxRecDepth 65536 in
theorem w_alone : about1.alone = true := by decide +kernel
set_option maxRecDepth 65536 in
theorem w_named : about1.methodNamed? x = some theMethod := by decide +kernel
set_option maxRecDepth 65536 in
theorem w_hears : about1.hears theMethod below0 = true := by decide +kernel
set_option maxRecDepth 65536 in
theorem w_ripe : about1.ripe theMethod args0 below0 = true := by decide +kernel
theorem w_running : about1.status = .running := rfl
set_option maxRecDepth 65536 in
theorem w_room : about1.hasRoom e0.platform room_1 = true :=
  launch0.hasRoom_least _ room_1 (by decide +kernel) (by decide +kernel) (by decide +kernel) (by decide +kernel) (by decide +kernel) (by decide +kernel)
theorem allAtoms_all (ts : List Jvm.Cond) (a : Array Jvm.Value) (st : Jvm.State) : (allAtoms ts).before a st = ts.all (fun c => c.before a st) := by
  induction ts with
  | nil => rfl
  | cons c t ih =>
    show (Jvm.Cond.and c (allAtoms t)).before a st = _
    rw [Jvm.Cond.before_and, ih, List.all_cons]
def words1 : List Jvm.Cond := Jvm.Cond.code x code maxLocals ret :: tables_1
/-- a 'code' word, met by the world's own term for the bytes: nothing is compared byte by byte -/
theorem code_word {y : MethodName} {bytes : ByteArray} {mx : Nat} {rt : Option FieldType} {a : Array Value} {s : State} {m : MethodId} {meth : Method} {c : Code} (h1 : s.methodNamed? y = some m) (h2 : s.vm.method? m = some meth) (h3 : meth.code = some c) (h4 : c.code = bytes)
    (h5 : (c.maxLocals == mx && c.exceptionTable.isEmpty && decide (c.maxStack ≤ mostOperands) && decide (meth.sig.returnType = rt) && !meth.locks && decide (parseMethodDescriptor y.desc = some meth.sig)) = true) : (Jvm.Cond.code y bytes mx rt).before a s = true := by
  simp only [Bool.and_eq_true, beq_iff_eq, Bool.not_eq_true', decide_eq_true_eq] at h5
  obtain ⟨⟨⟨⟨⟨g1, g2⟩, g3⟩, g4⟩, g5⟩, g6⟩ := h5
  simp [Cond.before, Cond.holds, Cond.value, h1, h2, h3, h4, g1, g2, g3, g4, g5, g6]
def isCode : Jvm.Cond → Bool
  | .code _ _ _ _ => true
  | _ => false
theorem all_split {L : List Jvm.Cond} {P : Jvm.Cond → Bool} (h1 : L.all (fun c => isCode c || P c) = true) (h2 : ∀ c ∈ L.filter isCode, P c = true) : L.all P = true := by
  refine List.all_eq_true.mpr fun c hc => ?_
  have h := List.all_eq_true.mp h1 c hc
  rcases Bool.eq_false_or_eq_true (isCode c) with hi | hi
  · exact h2 c (List.mem_filter.mpr ⟨hc, hi⟩)
  · simpa [hi] using h
set_option maxRecDepth 65536 in
theorem w_c0 : (Jvm.Cond.code x code maxLocals ret).before args0 about1 = true := code_word (m := ⟨1, 1⟩) (meth := k1m1) (c := k1c1) (by decide +kernel) rfl rfl rfl (by decide +kernel)
set_option maxRecDepth 65536 in
theorem w_c1 : (Jvm.Cond.code ({ cls := "com/example/equate/equate/VoteRank", name := "<init>", desc := "(II)V" } : Jvm.MethodName) prog_3_method_1_code (3 : Nat) (Option.none : Option Jvm.ClassFile.FieldType)).before args0 about1 = true := code_word (m := ⟨3, 0⟩) (meth := k3m0) (c := k3c0) (by decide +kernel) rfl rfl rfl (by decide +kernel)
set_option maxRecDepth 65536 in
theorem w_c2 : (Jvm.Cond.code ({ cls := "java/lang/Record", name := "<init>", desc := "()V" } : Jvm.MethodName) jdk_30_method_1_code (1 : Nat) (Option.none : Option Jvm.ClassFile.FieldType)).before args0 about1 = true := code_word (m := ⟨2, 0⟩) (meth := k2m0) (c := k2c0) (by decide +kernel) rfl rfl rfl (by decide +kernel)
set_option maxRecDepth 65536 in
theorem w_c3 : (Jvm.Cond.code ({ cls := "java/lang/Object", name := "<init>", desc := "()V" } : Jvm.MethodName) object_method_1_code (1 : Nat) (Option.none : Option Jvm.ClassFile.FieldType)).before args0 about1 = true := code_word (m := ⟨0, 0⟩) (meth := k0m0) (c := k0c0) (by decide +kernel) rfl rfl rfl (by decide +kernel)
set_option maxRecDepth 65536 in
theorem w_c4 : (Jvm.Cond.code ({ cls := "com/example/equate/equate/VoteRank", name := "requirePercentage", desc := "(Ljava/lang/String;I)V" } : Jvm.MethodName) prog_3_method_5_code (2 : Nat) (Option.none : Option Jvm.ClassFile.FieldType)).before args0 about1 = true := code_word (m := ⟨3, 2⟩) (meth := k3m2) (c := k3c2) (by decide +kernel) rfl rfl rfl (by decide +kernel)
set_option maxRecDepth 65536 in
theorem w_c5 : (Jvm.Cond.code ({ cls := "com/example/equate/equate/VoteRank", name := "rank", desc := "()I" } : Jvm.MethodName) prog_3_method_3_code (1 : Nat) (Option.some Jvm.ClassFile.FieldType.int)).before args0 about1 = true := code_word (m := ⟨3, 1⟩) (meth := k3m1) (c := k3c1) (by decide +kernel) rfl rfl rfl (by decide +kernel)
def codes1 : List Jvm.Cond := [Jvm.Cond.code x code maxLocals ret, Jvm.Cond.code ({ cls := "com/example/equate/equate/VoteRank", name := "<init>", desc := "(II)V" } : Jvm.MethodName) prog_3_method_1_code (3 : Nat) (Option.none : Option Jvm.ClassFile.FieldType), Jvm.Cond.code ({ cls := "java/lang/Record", name := "<init>", desc := "()V" } : Jvm.MethodName) jdk_30_method_1_code (1 : Nat) (Option.none : Option Jvm.ClassFile.FieldType), Jvm.Cond.code ({ cls := "java/lang/Object", name := "<init>", desc := "()V" } : Jvm.MethodName) object_method_1_code (1 : Nat) (Option.none : Option Jvm.ClassFile.FieldType), Jvm.Cond.code ({ cls := "com/example/equate/equate/VoteRank", name := "requirePercentage", desc := "(Ljava/lang/String;I)V" } : Jvm.MethodName) prog_3_method_5_code (2 : Nat) (Option.none : Option Jvm.ClassFile.FieldType), Jvm.Cond.code ({ cls := "com/example/equate/equate/VoteRank", name := "rank", desc := "()I" } : Jvm.MethodName) prog_3_method_3_code (1 : Nat) (Option.some Jvm.ClassFile.FieldType.int)]
set_option maxRecDepth 65536 in
theorem codes_eq : words1.filter isCode = codes1 := rfl
theorem w_codes : ∀ c ∈ words1.filter isCode, c.before args0 about1 = true := by
  rw [codes_eq]
  intro c hc
  simp only [codes1, List.mem_cons, List.not_mem_nil, or_false] at hc
  rcases hc with rfl | rfl | rfl | rfl | rfl | rfl
  · exact w_c0
  · exact w_c1
  · exact w_c2
  · exact w_c3
  · exact w_c4
  · exact w_c5
set_option maxRecDepth 65536 in
theorem w_t1 : (words1.take 24).all (fun c => isCode c || c.before args0 about1) = true := by decide +kernel
set_option maxRecDepth 65536 in
theorem w_t2 : (words1.drop 24).all (fun c => isCode c || c.before args0 about1) = true := by decide +kernel
theorem w_tables : (allAtoms (Jvm.Cond.code x code maxLocals ret :: tables_1)).before args0 about1 = true := by
  rw [allAtoms_all]
  show words1.all (fun c => c.before args0 about1) = true
  refine all_split ?_ w_codes
  rw [← List.take_append_drop 24 words1, List.all_append, w_t1, w_t2]
  rfl
set_option maxRecDepth 65536 in
theorem w_case : (Jvm.Cond.and given_1 narrow_1).before args0 about1 = true := by decide +kernel
theorem w_applies : (headSpec (Jvm.Cond.code x code maxLocals ret :: tables_1) room_1).applies x e0.platform about1 = true :=
  (Spec.applies_iff w_frames).mpr ⟨w_running, w_runnable, w_alone, w_named, w_hears, w_ripe, w_room, w_tables⟩
theorem atStart : AtStart classFile x code maxLocals ret World_1 tables_1 room_1 Calls_1 rest_1 Pre_1 launch0 p0 e0 about1 theMethod args0 below0 :=
  ⟨lists_1, trivial, launch0.admits_env _ _ _, launch0.least_env, fairChoices_fair.cas, fairChoices_fair.clock, w_frames, w_args, w_heap, w_applies, trivial, trivial, w_case⟩
end start1
theorem witness_1 : WitnessClaimed_1 := ⟨start1.p0, start1.e0, start1.about1, start1.theMethod, start1.args0, start1.below0, start1.atStart⟩
end Jvm.Pilot.@@N@@
