import JvmDerived
import JvmDerived.Pilot.@@N@@Statement
import JvmDerived.Pilot.@@N@@Code
set_option linter.unusedVariables false
set_option linter.unusedSimpArgs false
namespace Jvm.RoadKit
open Sem ClassFile Op Lib Jvm.Stand Jvm.Free Jvm.LawKit
section New
variable {p : Program} {l : Launch} {e : Env} {R : Room} {s : State} {m : MethodId} {args : Array Value} {below : List Frame} {meth : Method} {c : Code} {T : State} {locs : List Loc} {cells slots : Nat}
theorem retI (X : Stand p l e R s m args below meth c T locs cells slots) (hx : p.tables.exec = Jvm.exec) {pc : Nat} {Ls : Array Slot} {z : Int32} {rest : List Value} (hret : meth.sig.returnType = some .int) (hd : decode c.code pc = .ok (.ireturn, 1)) {fs : List Frame}
    (hl : ∀ (f : JFrame) (acts : List Action), f.method = m → f.locked = none → f.entered = [] → (doReturn e (T.setTop f) acts (some (.int z))).1 = T.setFrames fs) : Steps p.tables e below (T.setTop (mkF m pc Ls (.int z :: rest))) (T.setFrames fs) := by
  have hm' : T.vm.method? m = some meth := X.method'
  have hn : narrow .int (.int z) = .int z := rfl
  show Steps p.tables e below (T.setTop { method := m, pc := pc, locals := Ls, stack := _ :: rest, locked := none }) _
  jvm_step X.here [X.here.top, hx, hd, hm', hret, hn]
  first | (intro acts; rw [hl _ acts rfl rfl rfl]) | rw [hl _ _ rfl rfl rfl]
  exact Steps.refl _
end New
end Jvm.RoadKit
namespace Jvm.Pilot.@@N@@
open Jvm Jvm.ClassFile Sem Op Lib Jvm.Free Jvm.Stand Jvm.LawKit Jvm.RoadKit Bundle Jvm.Pilot.@@N@@.Jvm.D

theorem own_at {args : Array Value} {s : State} {C n d K : String} (hx : (Jvm.Cond.exactly (.static C n d) K).value args s none s [] = some true) (hi : (Jvm.Cond.initialized C).before args s = true) (hl : (Jvm.Cond.laysStatic C n d).before args s = true) : ∃ a, (Jvm.Term.static C n d).eval args s none [] s = some (.ref a) ∧ Sta s s.heap C n d (.ref a) ∧ Exa s s.heap a K := by
  obtain ⟨a, ea⟩ := exa_v hx
  exact ⟨a, ea, Sta.start ea (Or.inr ⟨hi, hl⟩), Exa.start ea hx⟩
theorem own_fld {args : Array Value} {s : State} {t : Jvm.Term} {a : Addr} {C n : String} {k : Int32} (ht : t.eval args s none [] s = some (.ref a)) (he : (Jvm.Cond.eq (.field t C n "I") (.int k)).value args s none s [] = some true) : Fld s s.heap a C n "I" (.int k) := by
  obtain ⟨x, y, hx, hy, -, kin⟩ := cmp_v (Or.inl he)
  obtain rfl : Value.int k = y := Option.some.inj hy
  obtain ⟨z, rfl⟩ : ∃ z, x = .int z := kin
  have h2 : (Jvm.Cond.eq (.field t C n "I") (.int k)).value args s none s [] = some (decide (z = k)) := by simp only [Cond.value, hx, hy]
  obtain rfl : z = k := gotT h2 he
  exact Fld.start ((fld_at ht).symm.trans hx)

theorem own_mask31 (x : Int32) : 0 ≤ (x &&& (2147483647 : Int32)).toInt := by
  have h : (x &&& (2147483647 : Int32)).toBitVec.msb = false := by
    rw [Int32.toBitVec_and, BitVec.msb_and]
    rw [show ((2147483647 : Int32).toBitVec.msb) = false from by decide, Bool.and_false]
  show 0 ≤ (x &&& (2147483647 : Int32)).toBitVec.toInt
  rw [BitVec.toInt_eq_toNat_of_msb h]
  exact Int.natCast_nonneg _
theorem own_rem (x : Int32) (k : Int32) (hk : 0 < k.toInt) : 0 ≤ ((x &&& (2147483647 : Int32)) % k).toInt ∧ ((x &&& (2147483647 : Int32)) % k).toInt < k.toInt := by
  have h := own_mask31 x
  rw [Int32.toInt_mod, Int.tmod_eq_emod_of_nonneg h]
  exact ⟨Int.emod_nonneg _ (by omega), Int.emod_lt_of_pos _ hk⟩
theorem own_mod3 (x : Int32) : (x &&& (2147483647 : Int32)) % (3 : Int32) = 0 ∨ (x &&& (2147483647 : Int32)) % (3 : Int32) = 1 ∨ (x &&& (2147483647 : Int32)) % (3 : Int32) = 2 := by
  obtain ⟨h1, h2⟩ := own_rem x 3 (by decide)
  simp only [← Int32.toInt_inj]
  have e3 : (3 : Int32).toInt = 3 := by decide
  have e0 : (0 : Int32).toInt = 0 := by decide
  have e1 : (1 : Int32).toInt = 1 := by decide
  have e2 : (2 : Int32).toInt = 2 := by decide
  rw [e3] at h2
  rw [e0, e1, e2]
  omega
theorem own_mod6 (x : Int32) : (x &&& (2147483647 : Int32)) % (6 : Int32) = 0 ∨ (x &&& (2147483647 : Int32)) % (6 : Int32) = 1 ∨ (x &&& (2147483647 : Int32)) % (6 : Int32) = 2 ∨ (x &&& (2147483647 : Int32)) % (6 : Int32) = 3 ∨ (x &&& (2147483647 : Int32)) % (6 : Int32) = 4 ∨ (x &&& (2147483647 : Int32)) % (6 : Int32) = 5 := by
  obtain ⟨h1, h2⟩ := own_rem x 6 (by decide)
  simp only [← Int32.toInt_inj]
  have e6 : (6 : Int32).toInt = 6 := by decide
  have e0 : (0 : Int32).toInt = 0 := by decide
  have e1 : (1 : Int32).toInt = 1 := by decide
  have e2 : (2 : Int32).toInt = 2 := by decide
  have e3 : (3 : Int32).toInt = 3 := by decide
  have e4 : (4 : Int32).toInt = 4 := by decide
  have e5 : (5 : Int32).toInt = 5 := by decide
  rw [e6] at h2
  rw [e0, e1, e2, e3, e4, e5]
  omega

theorem own_ext {h h' : Heap} (K : Keep h h' []) : Ext h h' := ⟨K.1, fun a c q => K.2.1 a c q nin0⟩
theorem d2_0 : decode jdk_37_method_2_code 0 = .ok (.aload_n 0, 1) := by decide +kernel
theorem d2_1 : decode jdk_37_method_2_code 1 = .ok (.getfield 7, 3) := by decide +kernel
theorem d2_4 : decode jdk_37_method_2_code 4 = .ok (.ireturn, 1) := by decide +kernel
theorem pn_2 : plainName "java/lang/Enum" = true := by first | (simp [plainName, overriddenIn]; done) | decide +kernel
theorem ef_2 (m : MethodId) (x0 : Addr) : entryFrame m #[(.ref x0)] 1 = mkF m 0 #[.val (.ref x0)] [] := by first | (simp [entryFrame, mkF, argsToLocals, Value.category]; done) | rfl
def Q2 (Z : State) (a1 : Addr) (w2 : Int32) (h0 : Heap) (n0 : Nat) (v : Option Value) (h : Heap) (L : List Loc) : Prop := v = some (.int w2) ∧ Fr n0 L ∧ h = h0
set_option maxRecDepth 65536 in
set_option maxHeartbeats 40000000 in
theorem rm2 (l : Launch) (Z : State) (a0 : Array Value) (hw : ∀ d ∈ tables_1, d.before a0 Z = true) (ws : List Jvm.Cond) (a1 : Addr) (w2 : Int32) (h0 : Heap) (n0 : Nat) (Z0 : n0 ≤ h0.size) (F_ordinal_a1 : Fld Z h0 a1 "java/lang/Enum" "ordinal" "I" (.int w2)) :
    MetFree l (⟨"java/lang/Enum", "ordinal", "()I"⟩ : MethodName) (head1 (Jvm.Cond.code (⟨"java/lang/Enum", "ordinal", "()I"⟩ : MethodName) jdk_37_method_2_code 1 (some .int) :: ws) ({ frames := 0, cells := 0, slots := 0, locals := 0 } : Room)) (fun a U => a = #[(.ref a1)] ∧ Z.Warmed39 U.vm ∧ U.heap = h0) (fun _ _ _ _ _ => True) (fun _ U o U' => ∃ v L, o = .returned v ∧ Q2 Z a1 w2 h0 n0 v U'.heap L ∧ FrameEnd U o U' L ({ frames := 0, cells := 0, slots := 0, locals := 0 } : Room).cells ({ frames := 0, cells := 0, slots := 0, locals := 0 } : Room).slots) := by
  refine MetFree.of_bodySF (plainFor_of_name pn_2) hisR ?_
  intro p e s m args below meth c s₁ Bd hml0 hP hK
  obtain ⟨rfl, hZ, hh⟩ := hP
  have hx := Bd.exec
  have hby := Bd.bytes
  have hml : c.maxLocals = 1 := hml0
  have hown : s.vm.findClass "java/lang/Enum" = some m.cls := findClass_of_methodNamed Bd.named
  have hnm := (name_of_methodNamed Bd.named Bd.method).1
  have X0 : Stand p l e ({ frames := 0, cells := 0, slots := 0, locals := 0 } : Room) s m #[(.ref a1)] below meth c s₁ [] 0 0 := Stand.of_body Bd
  have e0 : s₁.heap = h0 := by rw [← hh, Bd.state]; rfl
  have N0 := Fr.nil n0
  have pre0 : ∀ t, Steps p.tables e below (s₁.setTop (mkF m 0 #[.val (.ref a1)] [])) t → Steps p.tables e below (s₁.setTop (entryFrame m #[(.ref a1)] 1)) t := fun t k => castTop (ef_2 m a1) k
  obtain ⟨T3, X3, e3, st3⟩ := getF X0 hx hZ hown (host := "") (Or.inl (hw _ (List.mem_of_getElem? (i := 30) rfl))) Via.refl e0 F_ordinal_a1 (g := (mkF m 1 #[.val (.ref a1)] [(.ref a1)])) rfl rfl (hb hby d2_1)
  obtain ⟨fs, hr, hrun, hended, hW, hsame⟩ := X3.leave (v := some (.int w2)) (fun h => by rw [Bd.returns] at h; cases h)
  refine ⟨_, _, pre0 _ ?_, hrun, hended, _, _, rfl, ?_, ⟨_, rfl⟩, hW, hsame.mono (by decide) (by decide)⟩
  · show Steps p.tables e below (s₁.setTop (mkF m 0 #[.val (.ref a1)] [])) _
    refine XS.aloadN X0.here hx rfl (hb hby d2_0) rfl rfl ?_
    show Steps p.tables e below (s₁.setTop (mkF m 1 #[.val (.ref a1)] [(.ref a1)])) _
    refine st3 _ ?_
    show Steps p.tables e below (T3.setTop (mkF m 4 #[.val (.ref a1)] [(.int w2)])) _
    exact retI X3 hx Bd.returns (hb hby d2_4) hr      -- retI stands in the head ('lawwalk <made dir>' prints it)
  · show Q2 Z a1 w2 h0 n0 _ T3.heap _
    rw [e3]
    exact ⟨rfl, N0, rfl⟩
def Q1 (b : Int32) (h0 : Heap) (n0 : Nat) (v : Option Value) (h : Heap) (L : List Loc) : Prop := v = some (.int b) ∧ Fr n0 L ∧ h = h0
theorem d1_0 : decode prog_44_method_4_code 0 = .ok (.aload_n 0, 1) := by decide +kernel
theorem d1_1 : decode prog_44_method_4_code 1 = .ok (.invokevirtual 41, 3) := by decide +kernel
theorem d1_4 : decode prog_44_method_4_code 4 = .ok (.tableswitch 40 0 5 #[50, 62, 74, 86, 98, 110], 40) := by decide +kernel
theorem d1_54 : decode prog_44_method_4_code 54 = .ok (.iload_n 1, 1) := by decide +kernel
theorem d1_55 : decode prog_44_method_4_code 55 = .ok (.ifCond .ne 7, 3) := by decide +kernel
theorem d1_58 : decode prog_44_method_4_code 58 = .ok (.iconst 1, 1) := by decide +kernel
theorem d1_59 : decode prog_44_method_4_code 59 = .ok (.goto 64, 3) := by decide +kernel
theorem d1_123 : decode prog_44_method_4_code 123 = .ok (.ireturn, 1) := by decide +kernel
theorem pn_1 : plainName "com/example/quantorum/quantorum/algebra/Relation" = true := by first | (simp [plainName, overriddenIn]; done) | decide +kernel
theorem pd_1_1 : parseMethodDescriptor "()I" = some ⟨[], some .int⟩ := by decide +kernel
theorem ef_1 (m : MethodId) (x0 : Addr) (x1 : Int32) : entryFrame m #[(.ref x0), (.int x1)] 2 = mkF m 0 #[.val (.ref x0), .val (.int x1)] [] := by first | (simp [entryFrame, mkF, argsToLocals, Value.category]; done) | rfl
set_option maxRecDepth 65536 in
set_option maxHeartbeats 40000000 in
theorem rm1_0f (l : Launch) (Z : State) (a0 : Array Value) (hw : ∀ d ∈ tables_1, d.before a0 Z = true) (ws : List Jvm.Cond) (a1 : Addr) (p2 : Int32) (h0 : Heap) (n0 : Nat) (Z0 : n0 ≤ h0.size) (E_a1 : Exa Z h0 a1 "com/example/quantorum/quantorum/algebra/Relation") (F1 : Fld Z h0 a1 "java/lang/Enum" "ordinal" "I" (.int (0 : Int32))) (hc55 : p2 = (0 : Int32)) :
    MetFree l (⟨"com/example/quantorum/quantorum/algebra/Relation", "holds", "(I)Z"⟩ : MethodName) (head1 (Jvm.Cond.code (⟨"com/example/quantorum/quantorum/algebra/Relation", "holds", "(I)Z"⟩ : MethodName) prog_44_method_4_code 2 (some .boolean) :: ws) ({ frames := 1, cells := 0, slots := 0, locals := 12 } : Room)) (fun a U => a = #[(.ref a1), (.int p2)] ∧ Z.Warmed39 U.vm ∧ U.heap = h0) (fun _ _ _ _ _ => True) (fun _ U o U' => ∃ v L, o = .returned v ∧ Q1 (1 : Int32) h0 n0 v U'.heap L ∧ FrameEnd U o U' L ({ frames := 1, cells := 0, slots := 0, locals := 12 } : Room).cells ({ frames := 1, cells := 0, slots := 0, locals := 12 } : Room).slots) := by
  refine MetFree.of_bodySF (plainFor_of_name pn_1) hisR ?_
  intro p e s m args below meth c s₁ Bd hml0 hP hK
  obtain ⟨rfl, hZ, hh⟩ := hP
  have hx := Bd.exec
  have hby := Bd.bytes
  have hml : c.maxLocals = 2 := hml0
  have hown : s.vm.findClass "com/example/quantorum/quantorum/algebra/Relation" = some m.cls := findClass_of_methodNamed Bd.named
  have hnm := (name_of_methodNamed Bd.named Bd.method).1
  have X0 : Stand p l e ({ frames := 1, cells := 0, slots := 0, locals := 12 } : Room) s m #[(.ref a1), (.int p2)] below meth c s₁ [] 0 0 := Stand.of_body Bd
  have e0 : s₁.heap = h0 := by rw [← hh, Bd.state]; rfl
  have N0 := Fr.nil n0
  have pre0 : ∀ t, Steps p.tables e below (s₁.setTop (mkF m 0 #[.val (.ref a1), .val (.int p2)] [])) t → Steps p.tables e below (s₁.setTop (entryFrame m #[(.ref a1), (.int p2)] 2)) t := fun t k => castTop (ef_1 m a1 p2) k
  obtain ⟨cq3, kq3, q3a, q3b, q3c⟩ := isOf hZ e0 E_a1
  obtain ⟨_, _, ⟨T3, L3, k3, n3⟩, -, X3, ⟨Lc3, hQ3, l3, y3, z3⟩, st3⟩ := X0.virtualBackUp hx (x := (⟨"com/example/quantorum/quantorum/algebra/Relation", "ordinal", "()I"⟩ : MethodName)) (y := (⟨"java/lang/Enum", "ordinal", "()I"⟩ : MethodName)) hown (mvT hZ (hw _ (List.mem_of_getElem? (i := 23) rfl))) (mvT hZ (hw _ (List.mem_of_getElem? (i := 24) rfl))) (mvT hZ (hw _ (List.mem_of_getElem? (i := 25) rfl))) (by decide) (mvT hZ (hw _ (List.mem_of_getElem? (i := 27) rfl))) (mvT hZ (hw _ (List.mem_of_getElem? (i := 26) rfl))) (backOf (W := 0) (rm2 l Z a0 hw [] a1 (0 : Int32) h0 n0 Z0 F1) hZ (hw _ (List.mem_of_getElem? (i := 29) rfl)) (hw _ (List.mem_of_getElem? (i := 28) rfl)) (by decide) (by decide)) q3a q3c (g := (mkF m 1 #[.val (.ref a1), .val (.int p2)] [(.ref a1)])) rfl (by rw [hml]; rfl) (Steps.refl _) (argsL := []) (rest := []) (lenOf pd_1_1 rfl) rfl (by show 2 * 0 + _ ≤ _; exact Nat.le_of_eq rfl) (hb hby d1_1) (fun _ _ => ⟨rfl, e0, (by decide : 0 + 0 ≤ _), (by decide : 0 + 0 ≤ _)⟩)
  dsimp only [Pt.U, Pt.locs, Pt.cells, Pt.slots] at X3 l3 y3 z3 st3 hQ3
  subst l3 y3 z3
  obtain ⟨rfl, N3q, e3⟩ := hQ3
  have N3 := Fr.app N0 N3q
  obtain ⟨fs, hr, hrun, hended, hW, hsame⟩ := X3.leave (v := some (.int (1 : Int32))) (fun h => by rw [Bd.returns] at h; cases h)
  refine ⟨_, _, pre0 _ ?_, hrun, hended, _, _, rfl, ?_, ⟨_, rfl⟩, hW, hsame.mono (by decide) (by decide)⟩
  · show Steps p.tables e below (s₁.setTop (mkF m 0 #[.val (.ref a1), .val (.int p2)] [])) _
    refine XS.aloadN X0.here hx rfl (hb hby d1_0) rfl rfl ?_
    show Steps p.tables e below (s₁.setTop (mkF m 1 #[.val (.ref a1), .val (.int p2)] [(.ref a1)])) _
    refine st3.trans ?_
    show Steps p.tables e below (T3.setTop (mkF m 4 #[.val (.ref a1), .val (.int p2)] [(.int (0 : Int32))])) _
    refine XS.tswIn X3.here hx rfl (pc0 := 4) (pc' := 54) (o := 50) rfl (hb hby d1_4) rfl (by decide) rfl (by decide) (by decide) ?_
    show Steps p.tables e below (T3.setTop (mkF m 54 #[.val (.ref a1), .val (.int p2)] [])) _
    refine XS.iloadN X3.here hx rfl (hb hby d1_54) rfl ?_
    show Steps p.tables e below (T3.setTop (mkF m 55 #[.val (.ref a1), .val (.int p2)] [(.int p2)])) _
    refine XS.ifNo X3.here hx rfl (hb hby d1_55) rfl ((if0 _ _).trans (teq hc55).2) ?_
    show Steps p.tables e below (T3.setTop (mkF m 58 #[.val (.ref a1), .val (.int p2)] [])) _
    refine XS.iconst X3.here hx rfl (hb hby d1_58) ?_
    show Steps p.tables e below (T3.setTop (mkF m 59 #[.val (.ref a1), .val (.int p2)] [(.int (1 : Int32))])) _
    refine XS.goto X3.here hx rfl (pc0 := 59) (pc' := 123) rfl (hb hby d1_59) (by decide) (by decide) ?_
    show Steps p.tables e below (T3.setTop (mkF m 123 #[.val (.ref a1), .val (.int p2)] [(.int (1 : Int32))])) _
    exact retN X3 hx (t := .boolean) Bd.returns (by simp) (hb hby d1_123) hr
  · show Q1 (1 : Int32) h0 n0 _ T3.heap _
    rw [e3]
    exact ⟨rfl, N3, rfl⟩
theorem d1_62 : decode prog_44_method_4_code 62 = .ok (.iconst 0, 1) := by decide +kernel
theorem d1_63 : decode prog_44_method_4_code 63 = .ok (.goto 60, 3) := by decide +kernel
set_option maxRecDepth 65536 in
set_option maxHeartbeats 40000000 in
theorem rm1_0t (l : Launch) (Z : State) (a0 : Array Value) (hw : ∀ d ∈ tables_1, d.before a0 Z = true) (ws : List Jvm.Cond) (a1 : Addr) (p2 : Int32) (h0 : Heap) (n0 : Nat) (Z0 : n0 ≤ h0.size) (E_a1 : Exa Z h0 a1 "com/example/quantorum/quantorum/algebra/Relation") (F1 : Fld Z h0 a1 "java/lang/Enum" "ordinal" "I" (.int (0 : Int32))) (hc55 : ¬ (p2 = (0 : Int32))) :
    MetFree l (⟨"com/example/quantorum/quantorum/algebra/Relation", "holds", "(I)Z"⟩ : MethodName) (head1 (Jvm.Cond.code (⟨"com/example/quantorum/quantorum/algebra/Relation", "holds", "(I)Z"⟩ : MethodName) prog_44_method_4_code 2 (some .boolean) :: ws) ({ frames := 1, cells := 0, slots := 0, locals := 12 } : Room)) (fun a U => a = #[(.ref a1), (.int p2)] ∧ Z.Warmed39 U.vm ∧ U.heap = h0) (fun _ _ _ _ _ => True) (fun _ U o U' => ∃ v L, o = .returned v ∧ Q1 (0 : Int32) h0 n0 v U'.heap L ∧ FrameEnd U o U' L ({ frames := 1, cells := 0, slots := 0, locals := 12 } : Room).cells ({ frames := 1, cells := 0, slots := 0, locals := 12 } : Room).slots) := by
  refine MetFree.of_bodySF (plainFor_of_name pn_1) hisR ?_
  intro p e s m args below meth c s₁ Bd hml0 hP hK
  obtain ⟨rfl, hZ, hh⟩ := hP
  have hx := Bd.exec
  have hby := Bd.bytes
  have hml : c.maxLocals = 2 := hml0
  have hown : s.vm.findClass "com/example/quantorum/quantorum/algebra/Relation" = some m.cls := findClass_of_methodNamed Bd.named
  have hnm := (name_of_methodNamed Bd.named Bd.method).1
  have X0 : Stand p l e ({ frames := 1, cells := 0, slots := 0, locals := 12 } : Room) s m #[(.ref a1), (.int p2)] below meth c s₁ [] 0 0 := Stand.of_body Bd
  have e0 : s₁.heap = h0 := by rw [← hh, Bd.state]; rfl
  have N0 := Fr.nil n0
  have pre0 : ∀ t, Steps p.tables e below (s₁.setTop (mkF m 0 #[.val (.ref a1), .val (.int p2)] [])) t → Steps p.tables e below (s₁.setTop (entryFrame m #[(.ref a1), (.int p2)] 2)) t := fun t k => castTop (ef_1 m a1 p2) k
  obtain ⟨cq3, kq3, q3a, q3b, q3c⟩ := isOf hZ e0 E_a1
  obtain ⟨_, _, ⟨T3, L3, k3, n3⟩, -, X3, ⟨Lc3, hQ3, l3, y3, z3⟩, st3⟩ := X0.virtualBackUp hx (x := (⟨"com/example/quantorum/quantorum/algebra/Relation", "ordinal", "()I"⟩ : MethodName)) (y := (⟨"java/lang/Enum", "ordinal", "()I"⟩ : MethodName)) hown (mvT hZ (hw _ (List.mem_of_getElem? (i := 23) rfl))) (mvT hZ (hw _ (List.mem_of_getElem? (i := 24) rfl))) (mvT hZ (hw _ (List.mem_of_getElem? (i := 25) rfl))) (by decide) (mvT hZ (hw _ (List.mem_of_getElem? (i := 27) rfl))) (mvT hZ (hw _ (List.mem_of_getElem? (i := 26) rfl))) (backOf (W := 0) (rm2 l Z a0 hw [] a1 (0 : Int32) h0 n0 Z0 F1) hZ (hw _ (List.mem_of_getElem? (i := 29) rfl)) (hw _ (List.mem_of_getElem? (i := 28) rfl)) (by decide) (by decide)) q3a q3c (g := (mkF m 1 #[.val (.ref a1), .val (.int p2)] [(.ref a1)])) rfl (by rw [hml]; rfl) (Steps.refl _) (argsL := []) (rest := []) (lenOf pd_1_1 rfl) rfl (by show 2 * 0 + _ ≤ _; exact Nat.le_of_eq rfl) (hb hby d1_1) (fun _ _ => ⟨rfl, e0, (by decide : 0 + 0 ≤ _), (by decide : 0 + 0 ≤ _)⟩)
  dsimp only [Pt.U, Pt.locs, Pt.cells, Pt.slots] at X3 l3 y3 z3 st3 hQ3
  subst l3 y3 z3
  obtain ⟨rfl, N3q, e3⟩ := hQ3
  have N3 := Fr.app N0 N3q
  obtain ⟨fs, hr, hrun, hended, hW, hsame⟩ := X3.leave (v := some (.int (0 : Int32))) (fun h => by rw [Bd.returns] at h; cases h)
  refine ⟨_, _, pre0 _ ?_, hrun, hended, _, _, rfl, ?_, ⟨_, rfl⟩, hW, hsame.mono (by decide) (by decide)⟩
  · show Steps p.tables e below (s₁.setTop (mkF m 0 #[.val (.ref a1), .val (.int p2)] [])) _
    refine XS.aloadN X0.here hx rfl (hb hby d1_0) rfl rfl ?_
    show Steps p.tables e below (s₁.setTop (mkF m 1 #[.val (.ref a1), .val (.int p2)] [(.ref a1)])) _
    refine st3.trans ?_
    show Steps p.tables e below (T3.setTop (mkF m 4 #[.val (.ref a1), .val (.int p2)] [(.int (0 : Int32))])) _
    refine XS.tswIn X3.here hx rfl (pc0 := 4) (pc' := 54) (o := 50) rfl (hb hby d1_4) rfl (by decide) rfl (by decide) (by decide) ?_
    show Steps p.tables e below (T3.setTop (mkF m 54 #[.val (.ref a1), .val (.int p2)] [])) _
    refine XS.iloadN X3.here hx rfl (hb hby d1_54) rfl ?_
    show Steps p.tables e below (T3.setTop (mkF m 55 #[.val (.ref a1), .val (.int p2)] [(.int p2)])) _
    refine XS.ifYes X3.here hx rfl (pc0 := 55) (pc' := 62) rfl (hb hby d1_55) rfl ((if0 _ _).trans (feq hc55).2) (by decide) (by decide) ?_
    show Steps p.tables e below (T3.setTop (mkF m 62 #[.val (.ref a1), .val (.int p2)] [])) _
    refine XS.iconst X3.here hx rfl (hb hby d1_62) ?_
    show Steps p.tables e below (T3.setTop (mkF m 63 #[.val (.ref a1), .val (.int p2)] [(.int (0 : Int32))])) _
    refine XS.goto X3.here hx rfl (pc0 := 63) (pc' := 123) rfl (hb hby d1_63) (by decide) (by decide) ?_
    show Steps p.tables e below (T3.setTop (mkF m 123 #[.val (.ref a1), .val (.int p2)] [(.int (0 : Int32))])) _
    exact retN X3 hx (t := .boolean) Bd.returns (by simp) (hb hby d1_123) hr
  · show Q1 (0 : Int32) h0 n0 _ T3.heap _
    rw [e3]
    exact ⟨rfl, N3, rfl⟩
theorem d1_66 : decode prog_44_method_4_code 66 = .ok (.iload_n 1, 1) := by decide +kernel
theorem d1_67 : decode prog_44_method_4_code 67 = .ok (.ifCond .eq 7, 3) := by decide +kernel
theorem d1_70 : decode prog_44_method_4_code 70 = .ok (.iconst 1, 1) := by decide +kernel
theorem d1_71 : decode prog_44_method_4_code 71 = .ok (.goto 52, 3) := by decide +kernel
set_option maxRecDepth 65536 in
set_option maxHeartbeats 40000000 in
theorem rm1_1f (l : Launch) (Z : State) (a0 : Array Value) (hw : ∀ d ∈ tables_1, d.before a0 Z = true) (ws : List Jvm.Cond) (a1 : Addr) (p2 : Int32) (h0 : Heap) (n0 : Nat) (Z0 : n0 ≤ h0.size) (E_a1 : Exa Z h0 a1 "com/example/quantorum/quantorum/algebra/Relation") (F1 : Fld Z h0 a1 "java/lang/Enum" "ordinal" "I" (.int (1 : Int32))) (hc67 : ¬ (p2 = (0 : Int32))) :
    MetFree l (⟨"com/example/quantorum/quantorum/algebra/Relation", "holds", "(I)Z"⟩ : MethodName) (head1 (Jvm.Cond.code (⟨"com/example/quantorum/quantorum/algebra/Relation", "holds", "(I)Z"⟩ : MethodName) prog_44_method_4_code 2 (some .boolean) :: ws) ({ frames := 1, cells := 0, slots := 0, locals := 12 } : Room)) (fun a U => a = #[(.ref a1), (.int p2)] ∧ Z.Warmed39 U.vm ∧ U.heap = h0) (fun _ _ _ _ _ => True) (fun _ U o U' => ∃ v L, o = .returned v ∧ Q1 (1 : Int32) h0 n0 v U'.heap L ∧ FrameEnd U o U' L ({ frames := 1, cells := 0, slots := 0, locals := 12 } : Room).cells ({ frames := 1, cells := 0, slots := 0, locals := 12 } : Room).slots) := by
  refine MetFree.of_bodySF (plainFor_of_name pn_1) hisR ?_
  intro p e s m args below meth c s₁ Bd hml0 hP hK
  obtain ⟨rfl, hZ, hh⟩ := hP
  have hx := Bd.exec
  have hby := Bd.bytes
  have hml : c.maxLocals = 2 := hml0
  have hown : s.vm.findClass "com/example/quantorum/quantorum/algebra/Relation" = some m.cls := findClass_of_methodNamed Bd.named
  have hnm := (name_of_methodNamed Bd.named Bd.method).1
  have X0 : Stand p l e ({ frames := 1, cells := 0, slots := 0, locals := 12 } : Room) s m #[(.ref a1), (.int p2)] below meth c s₁ [] 0 0 := Stand.of_body Bd
  have e0 : s₁.heap = h0 := by rw [← hh, Bd.state]; rfl
  have N0 := Fr.nil n0
  have pre0 : ∀ t, Steps p.tables e below (s₁.setTop (mkF m 0 #[.val (.ref a1), .val (.int p2)] [])) t → Steps p.tables e below (s₁.setTop (entryFrame m #[(.ref a1), (.int p2)] 2)) t := fun t k => castTop (ef_1 m a1 p2) k
  obtain ⟨cq3, kq3, q3a, q3b, q3c⟩ := isOf hZ e0 E_a1
  obtain ⟨_, _, ⟨T3, L3, k3, n3⟩, -, X3, ⟨Lc3, hQ3, l3, y3, z3⟩, st3⟩ := X0.virtualBackUp hx (x := (⟨"com/example/quantorum/quantorum/algebra/Relation", "ordinal", "()I"⟩ : MethodName)) (y := (⟨"java/lang/Enum", "ordinal", "()I"⟩ : MethodName)) hown (mvT hZ (hw _ (List.mem_of_getElem? (i := 23) rfl))) (mvT hZ (hw _ (List.mem_of_getElem? (i := 24) rfl))) (mvT hZ (hw _ (List.mem_of_getElem? (i := 25) rfl))) (by decide) (mvT hZ (hw _ (List.mem_of_getElem? (i := 27) rfl))) (mvT hZ (hw _ (List.mem_of_getElem? (i := 26) rfl))) (backOf (W := 0) (rm2 l Z a0 hw [] a1 (1 : Int32) h0 n0 Z0 F1) hZ (hw _ (List.mem_of_getElem? (i := 29) rfl)) (hw _ (List.mem_of_getElem? (i := 28) rfl)) (by decide) (by decide)) q3a q3c (g := (mkF m 1 #[.val (.ref a1), .val (.int p2)] [(.ref a1)])) rfl (by rw [hml]; rfl) (Steps.refl _) (argsL := []) (rest := []) (lenOf pd_1_1 rfl) rfl (by show 2 * 0 + _ ≤ _; exact Nat.le_of_eq rfl) (hb hby d1_1) (fun _ _ => ⟨rfl, e0, (by decide : 0 + 0 ≤ _), (by decide : 0 + 0 ≤ _)⟩)
  dsimp only [Pt.U, Pt.locs, Pt.cells, Pt.slots] at X3 l3 y3 z3 st3 hQ3
  subst l3 y3 z3
  obtain ⟨rfl, N3q, e3⟩ := hQ3
  have N3 := Fr.app N0 N3q
  obtain ⟨fs, hr, hrun, hended, hW, hsame⟩ := X3.leave (v := some (.int (1 : Int32))) (fun h => by rw [Bd.returns] at h; cases h)
  refine ⟨_, _, pre0 _ ?_, hrun, hended, _, _, rfl, ?_, ⟨_, rfl⟩, hW, hsame.mono (by decide) (by decide)⟩
  · show Steps p.tables e below (s₁.setTop (mkF m 0 #[.val (.ref a1), .val (.int p2)] [])) _
    refine XS.aloadN X0.here hx rfl (hb hby d1_0) rfl rfl ?_
    show Steps p.tables e below (s₁.setTop (mkF m 1 #[.val (.ref a1), .val (.int p2)] [(.ref a1)])) _
    refine st3.trans ?_
    show Steps p.tables e below (T3.setTop (mkF m 4 #[.val (.ref a1), .val (.int p2)] [(.int (1 : Int32))])) _
    refine XS.tswIn X3.here hx rfl (pc0 := 4) (pc' := 66) (o := 62) rfl (hb hby d1_4) rfl (by decide) rfl (by decide) (by decide) ?_
    show Steps p.tables e below (T3.setTop (mkF m 66 #[.val (.ref a1), .val (.int p2)] [])) _
    refine XS.iloadN X3.here hx rfl (hb hby d1_66) rfl ?_
    show Steps p.tables e below (T3.setTop (mkF m 67 #[.val (.ref a1), .val (.int p2)] [(.int p2)])) _
    refine XS.ifNo X3.here hx rfl (hb hby d1_67) rfl ((if0 _ _).trans (feq hc67).1) ?_
    show Steps p.tables e below (T3.setTop (mkF m 70 #[.val (.ref a1), .val (.int p2)] [])) _
    refine XS.iconst X3.here hx rfl (hb hby d1_70) ?_
    show Steps p.tables e below (T3.setTop (mkF m 71 #[.val (.ref a1), .val (.int p2)] [(.int (1 : Int32))])) _
    refine XS.goto X3.here hx rfl (pc0 := 71) (pc' := 123) rfl (hb hby d1_71) (by decide) (by decide) ?_
    show Steps p.tables e below (T3.setTop (mkF m 123 #[.val (.ref a1), .val (.int p2)] [(.int (1 : Int32))])) _
    exact retN X3 hx (t := .boolean) Bd.returns (by simp) (hb hby d1_123) hr
  · show Q1 (1 : Int32) h0 n0 _ T3.heap _
    rw [e3]
    exact ⟨rfl, N3, rfl⟩
theorem d1_74 : decode prog_44_method_4_code 74 = .ok (.iconst 0, 1) := by decide +kernel
theorem d1_75 : decode prog_44_method_4_code 75 = .ok (.goto 48, 3) := by decide +kernel
set_option maxRecDepth 65536 in
set_option maxHeartbeats 40000000 in
theorem rm1_1t (l : Launch) (Z : State) (a0 : Array Value) (hw : ∀ d ∈ tables_1, d.before a0 Z = true) (ws : List Jvm.Cond) (a1 : Addr) (p2 : Int32) (h0 : Heap) (n0 : Nat) (Z0 : n0 ≤ h0.size) (E_a1 : Exa Z h0 a1 "com/example/quantorum/quantorum/algebra/Relation") (F1 : Fld Z h0 a1 "java/lang/Enum" "ordinal" "I" (.int (1 : Int32))) (hc67 : p2 = (0 : Int32)) :
    MetFree l (⟨"com/example/quantorum/quantorum/algebra/Relation", "holds", "(I)Z"⟩ : MethodName) (head1 (Jvm.Cond.code (⟨"com/example/quantorum/quantorum/algebra/Relation", "holds", "(I)Z"⟩ : MethodName) prog_44_method_4_code 2 (some .boolean) :: ws) ({ frames := 1, cells := 0, slots := 0, locals := 12 } : Room)) (fun a U => a = #[(.ref a1), (.int p2)] ∧ Z.Warmed39 U.vm ∧ U.heap = h0) (fun _ _ _ _ _ => True) (fun _ U o U' => ∃ v L, o = .returned v ∧ Q1 (0 : Int32) h0 n0 v U'.heap L ∧ FrameEnd U o U' L ({ frames := 1, cells := 0, slots := 0, locals := 12 } : Room).cells ({ frames := 1, cells := 0, slots := 0, locals := 12 } : Room).slots) := by
  refine MetFree.of_bodySF (plainFor_of_name pn_1) hisR ?_
  intro p e s m args below meth c s₁ Bd hml0 hP hK
  obtain ⟨rfl, hZ, hh⟩ := hP
  have hx := Bd.exec
  have hby := Bd.bytes
  have hml : c.maxLocals = 2 := hml0
  have hown : s.vm.findClass "com/example/quantorum/quantorum/algebra/Relation" = some m.cls := findClass_of_methodNamed Bd.named
  have hnm := (name_of_methodNamed Bd.named Bd.method).1
  have X0 : Stand p l e ({ frames := 1, cells := 0, slots := 0, locals := 12 } : Room) s m #[(.ref a1), (.int p2)] below meth c s₁ [] 0 0 := Stand.of_body Bd
  have e0 : s₁.heap = h0 := by rw [← hh, Bd.state]; rfl
  have N0 := Fr.nil n0
  have pre0 : ∀ t, Steps p.tables e below (s₁.setTop (mkF m 0 #[.val (.ref a1), .val (.int p2)] [])) t → Steps p.tables e below (s₁.setTop (entryFrame m #[(.ref a1), (.int p2)] 2)) t := fun t k => castTop (ef_1 m a1 p2) k
  obtain ⟨cq3, kq3, q3a, q3b, q3c⟩ := isOf hZ e0 E_a1
  obtain ⟨_, _, ⟨T3, L3, k3, n3⟩, -, X3, ⟨Lc3, hQ3, l3, y3, z3⟩, st3⟩ := X0.virtualBackUp hx (x := (⟨"com/example/quantorum/quantorum/algebra/Relation", "ordinal", "()I"⟩ : MethodName)) (y := (⟨"java/lang/Enum", "ordinal", "()I"⟩ : MethodName)) hown (mvT hZ (hw _ (List.mem_of_getElem? (i := 23) rfl))) (mvT hZ (hw _ (List.mem_of_getElem? (i := 24) rfl))) (mvT hZ (hw _ (List.mem_of_getElem? (i := 25) rfl))) (by decide) (mvT hZ (hw _ (List.mem_of_getElem? (i := 27) rfl))) (mvT hZ (hw _ (List.mem_of_getElem? (i := 26) rfl))) (backOf (W := 0) (rm2 l Z a0 hw [] a1 (1 : Int32) h0 n0 Z0 F1) hZ (hw _ (List.mem_of_getElem? (i := 29) rfl)) (hw _ (List.mem_of_getElem? (i := 28) rfl)) (by decide) (by decide)) q3a q3c (g := (mkF m 1 #[.val (.ref a1), .val (.int p2)] [(.ref a1)])) rfl (by rw [hml]; rfl) (Steps.refl _) (argsL := []) (rest := []) (lenOf pd_1_1 rfl) rfl (by show 2 * 0 + _ ≤ _; exact Nat.le_of_eq rfl) (hb hby d1_1) (fun _ _ => ⟨rfl, e0, (by decide : 0 + 0 ≤ _), (by decide : 0 + 0 ≤ _)⟩)
  dsimp only [Pt.U, Pt.locs, Pt.cells, Pt.slots] at X3 l3 y3 z3 st3 hQ3
  subst l3 y3 z3
  obtain ⟨rfl, N3q, e3⟩ := hQ3
  have N3 := Fr.app N0 N3q
  obtain ⟨fs, hr, hrun, hended, hW, hsame⟩ := X3.leave (v := some (.int (0 : Int32))) (fun h => by rw [Bd.returns] at h; cases h)
  refine ⟨_, _, pre0 _ ?_, hrun, hended, _, _, rfl, ?_, ⟨_, rfl⟩, hW, hsame.mono (by decide) (by decide)⟩
  · show Steps p.tables e below (s₁.setTop (mkF m 0 #[.val (.ref a1), .val (.int p2)] [])) _
    refine XS.aloadN X0.here hx rfl (hb hby d1_0) rfl rfl ?_
    show Steps p.tables e below (s₁.setTop (mkF m 1 #[.val (.ref a1), .val (.int p2)] [(.ref a1)])) _
    refine st3.trans ?_
    show Steps p.tables e below (T3.setTop (mkF m 4 #[.val (.ref a1), .val (.int p2)] [(.int (1 : Int32))])) _
    refine XS.tswIn X3.here hx rfl (pc0 := 4) (pc' := 66) (o := 62) rfl (hb hby d1_4) rfl (by decide) rfl (by decide) (by decide) ?_
    show Steps p.tables e below (T3.setTop (mkF m 66 #[.val (.ref a1), .val (.int p2)] [])) _
    refine XS.iloadN X3.here hx rfl (hb hby d1_66) rfl ?_
    show Steps p.tables e below (T3.setTop (mkF m 67 #[.val (.ref a1), .val (.int p2)] [(.int p2)])) _
    refine XS.ifYes X3.here hx rfl (pc0 := 67) (pc' := 74) rfl (hb hby d1_67) rfl ((if0 _ _).trans (teq hc67).1) (by decide) (by decide) ?_
    show Steps p.tables e below (T3.setTop (mkF m 74 #[.val (.ref a1), .val (.int p2)] [])) _
    refine XS.iconst X3.here hx rfl (hb hby d1_74) ?_
    show Steps p.tables e below (T3.setTop (mkF m 75 #[.val (.ref a1), .val (.int p2)] [(.int (0 : Int32))])) _
    refine XS.goto X3.here hx rfl (pc0 := 75) (pc' := 123) rfl (hb hby d1_75) (by decide) (by decide) ?_
    show Steps p.tables e below (T3.setTop (mkF m 123 #[.val (.ref a1), .val (.int p2)] [(.int (0 : Int32))])) _
    exact retN X3 hx (t := .boolean) Bd.returns (by simp) (hb hby d1_123) hr
  · show Q1 (0 : Int32) h0 n0 _ T3.heap _
    rw [e3]
    exact ⟨rfl, N3, rfl⟩
theorem d1_78 : decode prog_44_method_4_code 78 = .ok (.iload_n 1, 1) := by decide +kernel
theorem d1_79 : decode prog_44_method_4_code 79 = .ok (.ifCond .ge 7, 3) := by decide +kernel
theorem d1_82 : decode prog_44_method_4_code 82 = .ok (.iconst 1, 1) := by decide +kernel
theorem d1_83 : decode prog_44_method_4_code 83 = .ok (.goto 40, 3) := by decide +kernel
set_option maxRecDepth 65536 in
set_option maxHeartbeats 40000000 in
theorem rm1_2f (l : Launch) (Z : State) (a0 : Array Value) (hw : ∀ d ∈ tables_1, d.before a0 Z = true) (ws : List Jvm.Cond) (a1 : Addr) (p2 : Int32) (h0 : Heap) (n0 : Nat) (Z0 : n0 ≤ h0.size) (E_a1 : Exa Z h0 a1 "com/example/quantorum/quantorum/algebra/Relation") (F1 : Fld Z h0 a1 "java/lang/Enum" "ordinal" "I" (.int (2 : Int32))) (hc79 : p2 < (0 : Int32)) :
    MetFree l (⟨"com/example/quantorum/quantorum/algebra/Relation", "holds", "(I)Z"⟩ : MethodName) (head1 (Jvm.Cond.code (⟨"com/example/quantorum/quantorum/algebra/Relation", "holds", "(I)Z"⟩ : MethodName) prog_44_method_4_code 2 (some .boolean) :: ws) ({ frames := 1, cells := 0, slots := 0, locals := 12 } : Room)) (fun a U => a = #[(.ref a1), (.int p2)] ∧ Z.Warmed39 U.vm ∧ U.heap = h0) (fun _ _ _ _ _ => True) (fun _ U o U' => ∃ v L, o = .returned v ∧ Q1 (1 : Int32) h0 n0 v U'.heap L ∧ FrameEnd U o U' L ({ frames := 1, cells := 0, slots := 0, locals := 12 } : Room).cells ({ frames := 1, cells := 0, slots := 0, locals := 12 } : Room).slots) := by
  refine MetFree.of_bodySF (plainFor_of_name pn_1) hisR ?_
  intro p e s m args below meth c s₁ Bd hml0 hP hK
  obtain ⟨rfl, hZ, hh⟩ := hP
  have hx := Bd.exec
  have hby := Bd.bytes
  have hml : c.maxLocals = 2 := hml0
  have hown : s.vm.findClass "com/example/quantorum/quantorum/algebra/Relation" = some m.cls := findClass_of_methodNamed Bd.named
  have hnm := (name_of_methodNamed Bd.named Bd.method).1
  have X0 : Stand p l e ({ frames := 1, cells := 0, slots := 0, locals := 12 } : Room) s m #[(.ref a1), (.int p2)] below meth c s₁ [] 0 0 := Stand.of_body Bd
  have e0 : s₁.heap = h0 := by rw [← hh, Bd.state]; rfl
  have N0 := Fr.nil n0
  have pre0 : ∀ t, Steps p.tables e below (s₁.setTop (mkF m 0 #[.val (.ref a1), .val (.int p2)] [])) t → Steps p.tables e below (s₁.setTop (entryFrame m #[(.ref a1), (.int p2)] 2)) t := fun t k => castTop (ef_1 m a1 p2) k
  obtain ⟨cq3, kq3, q3a, q3b, q3c⟩ := isOf hZ e0 E_a1
  obtain ⟨_, _, ⟨T3, L3, k3, n3⟩, -, X3, ⟨Lc3, hQ3, l3, y3, z3⟩, st3⟩ := X0.virtualBackUp hx (x := (⟨"com/example/quantorum/quantorum/algebra/Relation", "ordinal", "()I"⟩ : MethodName)) (y := (⟨"java/lang/Enum", "ordinal", "()I"⟩ : MethodName)) hown (mvT hZ (hw _ (List.mem_of_getElem? (i := 23) rfl))) (mvT hZ (hw _ (List.mem_of_getElem? (i := 24) rfl))) (mvT hZ (hw _ (List.mem_of_getElem? (i := 25) rfl))) (by decide) (mvT hZ (hw _ (List.mem_of_getElem? (i := 27) rfl))) (mvT hZ (hw _ (List.mem_of_getElem? (i := 26) rfl))) (backOf (W := 0) (rm2 l Z a0 hw [] a1 (2 : Int32) h0 n0 Z0 F1) hZ (hw _ (List.mem_of_getElem? (i := 29) rfl)) (hw _ (List.mem_of_getElem? (i := 28) rfl)) (by decide) (by decide)) q3a q3c (g := (mkF m 1 #[.val (.ref a1), .val (.int p2)] [(.ref a1)])) rfl (by rw [hml]; rfl) (Steps.refl _) (argsL := []) (rest := []) (lenOf pd_1_1 rfl) rfl (by show 2 * 0 + _ ≤ _; exact Nat.le_of_eq rfl) (hb hby d1_1) (fun _ _ => ⟨rfl, e0, (by decide : 0 + 0 ≤ _), (by decide : 0 + 0 ≤ _)⟩)
  dsimp only [Pt.U, Pt.locs, Pt.cells, Pt.slots] at X3 l3 y3 z3 st3 hQ3
  subst l3 y3 z3
  obtain ⟨rfl, N3q, e3⟩ := hQ3
  have N3 := Fr.app N0 N3q
  obtain ⟨fs, hr, hrun, hended, hW, hsame⟩ := X3.leave (v := some (.int (1 : Int32))) (fun h => by rw [Bd.returns] at h; cases h)
  refine ⟨_, _, pre0 _ ?_, hrun, hended, _, _, rfl, ?_, ⟨_, rfl⟩, hW, hsame.mono (by decide) (by decide)⟩
  · show Steps p.tables e below (s₁.setTop (mkF m 0 #[.val (.ref a1), .val (.int p2)] [])) _
    refine XS.aloadN X0.here hx rfl (hb hby d1_0) rfl rfl ?_
    show Steps p.tables e below (s₁.setTop (mkF m 1 #[.val (.ref a1), .val (.int p2)] [(.ref a1)])) _
    refine st3.trans ?_
    show Steps p.tables e below (T3.setTop (mkF m 4 #[.val (.ref a1), .val (.int p2)] [(.int (2 : Int32))])) _
    refine XS.tswIn X3.here hx rfl (pc0 := 4) (pc' := 78) (o := 74) rfl (hb hby d1_4) rfl (by decide) rfl (by decide) (by decide) ?_
    show Steps p.tables e below (T3.setTop (mkF m 78 #[.val (.ref a1), .val (.int p2)] [])) _
    refine XS.iloadN X3.here hx rfl (hb hby d1_78) rfl ?_
    show Steps p.tables e below (T3.setTop (mkF m 79 #[.val (.ref a1), .val (.int p2)] [(.int p2)])) _
    refine XS.ifNo X3.here hx rfl (hb hby d1_79) rfl ((if0 _ _).trans (tlt hc79).2.1) ?_
    show Steps p.tables e below (T3.setTop (mkF m 82 #[.val (.ref a1), .val (.int p2)] [])) _
    refine XS.iconst X3.here hx rfl (hb hby d1_82) ?_
    show Steps p.tables e below (T3.setTop (mkF m 83 #[.val (.ref a1), .val (.int p2)] [(.int (1 : Int32))])) _
    refine XS.goto X3.here hx rfl (pc0 := 83) (pc' := 123) rfl (hb hby d1_83) (by decide) (by decide) ?_
    show Steps p.tables e below (T3.setTop (mkF m 123 #[.val (.ref a1), .val (.int p2)] [(.int (1 : Int32))])) _
    exact retN X3 hx (t := .boolean) Bd.returns (by simp) (hb hby d1_123) hr
  · show Q1 (1 : Int32) h0 n0 _ T3.heap _
    rw [e3]
    exact ⟨rfl, N3, rfl⟩
theorem d1_86 : decode prog_44_method_4_code 86 = .ok (.iconst 0, 1) := by decide +kernel
theorem d1_87 : decode prog_44_method_4_code 87 = .ok (.goto 36, 3) := by decide +kernel
set_option maxRecDepth 65536 in
set_option maxHeartbeats 40000000 in
theorem rm1_2t (l : Launch) (Z : State) (a0 : Array Value) (hw : ∀ d ∈ tables_1, d.before a0 Z = true) (ws : List Jvm.Cond) (a1 : Addr) (p2 : Int32) (h0 : Heap) (n0 : Nat) (Z0 : n0 ≤ h0.size) (E_a1 : Exa Z h0 a1 "com/example/quantorum/quantorum/algebra/Relation") (F1 : Fld Z h0 a1 "java/lang/Enum" "ordinal" "I" (.int (2 : Int32))) (hc79 : ¬ (p2 < (0 : Int32))) :
    MetFree l (⟨"com/example/quantorum/quantorum/algebra/Relation", "holds", "(I)Z"⟩ : MethodName) (head1 (Jvm.Cond.code (⟨"com/example/quantorum/quantorum/algebra/Relation", "holds", "(I)Z"⟩ : MethodName) prog_44_method_4_code 2 (some .boolean) :: ws) ({ frames := 1, cells := 0, slots := 0, locals := 12 } : Room)) (fun a U => a = #[(.ref a1), (.int p2)] ∧ Z.Warmed39 U.vm ∧ U.heap = h0) (fun _ _ _ _ _ => True) (fun _ U o U' => ∃ v L, o = .returned v ∧ Q1 (0 : Int32) h0 n0 v U'.heap L ∧ FrameEnd U o U' L ({ frames := 1, cells := 0, slots := 0, locals := 12 } : Room).cells ({ frames := 1, cells := 0, slots := 0, locals := 12 } : Room).slots) := by
  refine MetFree.of_bodySF (plainFor_of_name pn_1) hisR ?_
  intro p e s m args below meth c s₁ Bd hml0 hP hK
  obtain ⟨rfl, hZ, hh⟩ := hP
  have hx := Bd.exec
  have hby := Bd.bytes
  have hml : c.maxLocals = 2 := hml0
  have hown : s.vm.findClass "com/example/quantorum/quantorum/algebra/Relation" = some m.cls := findClass_of_methodNamed Bd.named
  have hnm := (name_of_methodNamed Bd.named Bd.method).1
  have X0 : Stand p l e ({ frames := 1, cells := 0, slots := 0, locals := 12 } : Room) s m #[(.ref a1), (.int p2)] below meth c s₁ [] 0 0 := Stand.of_body Bd
  have e0 : s₁.heap = h0 := by rw [← hh, Bd.state]; rfl
  have N0 := Fr.nil n0
  have pre0 : ∀ t, Steps p.tables e below (s₁.setTop (mkF m 0 #[.val (.ref a1), .val (.int p2)] [])) t → Steps p.tables e below (s₁.setTop (entryFrame m #[(.ref a1), (.int p2)] 2)) t := fun t k => castTop (ef_1 m a1 p2) k
  obtain ⟨cq3, kq3, q3a, q3b, q3c⟩ := isOf hZ e0 E_a1
  obtain ⟨_, _, ⟨T3, L3, k3, n3⟩, -, X3, ⟨Lc3, hQ3, l3, y3, z3⟩, st3⟩ := X0.virtualBackUp hx (x := (⟨"com/example/quantorum/quantorum/algebra/Relation", "ordinal", "()I"⟩ : MethodName)) (y := (⟨"java/lang/Enum", "ordinal", "()I"⟩ : MethodName)) hown (mvT hZ (hw _ (List.mem_of_getElem? (i := 23) rfl))) (mvT hZ (hw _ (List.mem_of_getElem? (i := 24) rfl))) (mvT hZ (hw _ (List.mem_of_getElem? (i := 25) rfl))) (by decide) (mvT hZ (hw _ (List.mem_of_getElem? (i := 27) rfl))) (mvT hZ (hw _ (List.mem_of_getElem? (i := 26) rfl))) (backOf (W := 0) (rm2 l Z a0 hw [] a1 (2 : Int32) h0 n0 Z0 F1) hZ (hw _ (List.mem_of_getElem? (i := 29) rfl)) (hw _ (List.mem_of_getElem? (i := 28) rfl)) (by decide) (by decide)) q3a q3c (g := (mkF m 1 #[.val (.ref a1), .val (.int p2)] [(.ref a1)])) rfl (by rw [hml]; rfl) (Steps.refl _) (argsL := []) (rest := []) (lenOf pd_1_1 rfl) rfl (by show 2 * 0 + _ ≤ _; exact Nat.le_of_eq rfl) (hb hby d1_1) (fun _ _ => ⟨rfl, e0, (by decide : 0 + 0 ≤ _), (by decide : 0 + 0 ≤ _)⟩)
  dsimp only [Pt.U, Pt.locs, Pt.cells, Pt.slots] at X3 l3 y3 z3 st3 hQ3
  subst l3 y3 z3
  obtain ⟨rfl, N3q, e3⟩ := hQ3
  have N3 := Fr.app N0 N3q
  obtain ⟨fs, hr, hrun, hended, hW, hsame⟩ := X3.leave (v := some (.int (0 : Int32))) (fun h => by rw [Bd.returns] at h; cases h)
  refine ⟨_, _, pre0 _ ?_, hrun, hended, _, _, rfl, ?_, ⟨_, rfl⟩, hW, hsame.mono (by decide) (by decide)⟩
  · show Steps p.tables e below (s₁.setTop (mkF m 0 #[.val (.ref a1), .val (.int p2)] [])) _
    refine XS.aloadN X0.here hx rfl (hb hby d1_0) rfl rfl ?_
    show Steps p.tables e below (s₁.setTop (mkF m 1 #[.val (.ref a1), .val (.int p2)] [(.ref a1)])) _
    refine st3.trans ?_
    show Steps p.tables e below (T3.setTop (mkF m 4 #[.val (.ref a1), .val (.int p2)] [(.int (2 : Int32))])) _
    refine XS.tswIn X3.here hx rfl (pc0 := 4) (pc' := 78) (o := 74) rfl (hb hby d1_4) rfl (by decide) rfl (by decide) (by decide) ?_
    show Steps p.tables e below (T3.setTop (mkF m 78 #[.val (.ref a1), .val (.int p2)] [])) _
    refine XS.iloadN X3.here hx rfl (hb hby d1_78) rfl ?_
    show Steps p.tables e below (T3.setTop (mkF m 79 #[.val (.ref a1), .val (.int p2)] [(.int p2)])) _
    refine XS.ifYes X3.here hx rfl (pc0 := 79) (pc' := 86) rfl (hb hby d1_79) rfl ((if0 _ _).trans (flt hc79).2.1) (by decide) (by decide) ?_
    show Steps p.tables e below (T3.setTop (mkF m 86 #[.val (.ref a1), .val (.int p2)] [])) _
    refine XS.iconst X3.here hx rfl (hb hby d1_86) ?_
    show Steps p.tables e below (T3.setTop (mkF m 87 #[.val (.ref a1), .val (.int p2)] [(.int (0 : Int32))])) _
    refine XS.goto X3.here hx rfl (pc0 := 87) (pc' := 123) rfl (hb hby d1_87) (by decide) (by decide) ?_
    show Steps p.tables e below (T3.setTop (mkF m 123 #[.val (.ref a1), .val (.int p2)] [(.int (0 : Int32))])) _
    exact retN X3 hx (t := .boolean) Bd.returns (by simp) (hb hby d1_123) hr
  · show Q1 (0 : Int32) h0 n0 _ T3.heap _
    rw [e3]
    exact ⟨rfl, N3, rfl⟩
theorem d1_90 : decode prog_44_method_4_code 90 = .ok (.iload_n 1, 1) := by decide +kernel
theorem d1_91 : decode prog_44_method_4_code 91 = .ok (.ifCond .gt 7, 3) := by decide +kernel
theorem d1_94 : decode prog_44_method_4_code 94 = .ok (.iconst 1, 1) := by decide +kernel
theorem d1_95 : decode prog_44_method_4_code 95 = .ok (.goto 28, 3) := by decide +kernel
set_option maxRecDepth 65536 in
set_option maxHeartbeats 40000000 in
theorem rm1_3f (l : Launch) (Z : State) (a0 : Array Value) (hw : ∀ d ∈ tables_1, d.before a0 Z = true) (ws : List Jvm.Cond) (a1 : Addr) (p2 : Int32) (h0 : Heap) (n0 : Nat) (Z0 : n0 ≤ h0.size) (E_a1 : Exa Z h0 a1 "com/example/quantorum/quantorum/algebra/Relation") (F1 : Fld Z h0 a1 "java/lang/Enum" "ordinal" "I" (.int (3 : Int32))) (hc91 : ¬ ((0 : Int32) < p2)) :
    MetFree l (⟨"com/example/quantorum/quantorum/algebra/Relation", "holds", "(I)Z"⟩ : MethodName) (head1 (Jvm.Cond.code (⟨"com/example/quantorum/quantorum/algebra/Relation", "holds", "(I)Z"⟩ : MethodName) prog_44_method_4_code 2 (some .boolean) :: ws) ({ frames := 1, cells := 0, slots := 0, locals := 12 } : Room)) (fun a U => a = #[(.ref a1), (.int p2)] ∧ Z.Warmed39 U.vm ∧ U.heap = h0) (fun _ _ _ _ _ => True) (fun _ U o U' => ∃ v L, o = .returned v ∧ Q1 (1 : Int32) h0 n0 v U'.heap L ∧ FrameEnd U o U' L ({ frames := 1, cells := 0, slots := 0, locals := 12 } : Room).cells ({ frames := 1, cells := 0, slots := 0, locals := 12 } : Room).slots) := by
  refine MetFree.of_bodySF (plainFor_of_name pn_1) hisR ?_
  intro p e s m args below meth c s₁ Bd hml0 hP hK
  obtain ⟨rfl, hZ, hh⟩ := hP
  have hx := Bd.exec
  have hby := Bd.bytes
  have hml : c.maxLocals = 2 := hml0
  have hown : s.vm.findClass "com/example/quantorum/quantorum/algebra/Relation" = some m.cls := findClass_of_methodNamed Bd.named
  have hnm := (name_of_methodNamed Bd.named Bd.method).1
  have X0 : Stand p l e ({ frames := 1, cells := 0, slots := 0, locals := 12 } : Room) s m #[(.ref a1), (.int p2)] below meth c s₁ [] 0 0 := Stand.of_body Bd
  have e0 : s₁.heap = h0 := by rw [← hh, Bd.state]; rfl
  have N0 := Fr.nil n0
  have pre0 : ∀ t, Steps p.tables e below (s₁.setTop (mkF m 0 #[.val (.ref a1), .val (.int p2)] [])) t → Steps p.tables e below (s₁.setTop (entryFrame m #[(.ref a1), (.int p2)] 2)) t := fun t k => castTop (ef_1 m a1 p2) k
  obtain ⟨cq3, kq3, q3a, q3b, q3c⟩ := isOf hZ e0 E_a1
  obtain ⟨_, _, ⟨T3, L3, k3, n3⟩, -, X3, ⟨Lc3, hQ3, l3, y3, z3⟩, st3⟩ := X0.virtualBackUp hx (x := (⟨"com/example/quantorum/quantorum/algebra/Relation", "ordinal", "()I"⟩ : MethodName)) (y := (⟨"java/lang/Enum", "ordinal", "()I"⟩ : MethodName)) hown (mvT hZ (hw _ (List.mem_of_getElem? (i := 23) rfl))) (mvT hZ (hw _ (List.mem_of_getElem? (i := 24) rfl))) (mvT hZ (hw _ (List.mem_of_getElem? (i := 25) rfl))) (by decide) (mvT hZ (hw _ (List.mem_of_getElem? (i := 27) rfl))) (mvT hZ (hw _ (List.mem_of_getElem? (i := 26) rfl))) (backOf (W := 0) (rm2 l Z a0 hw [] a1 (3 : Int32) h0 n0 Z0 F1) hZ (hw _ (List.mem_of_getElem? (i := 29) rfl)) (hw _ (List.mem_of_getElem? (i := 28) rfl)) (by decide) (by decide)) q3a q3c (g := (mkF m 1 #[.val (.ref a1), .val (.int p2)] [(.ref a1)])) rfl (by rw [hml]; rfl) (Steps.refl _) (argsL := []) (rest := []) (lenOf pd_1_1 rfl) rfl (by show 2 * 0 + _ ≤ _; exact Nat.le_of_eq rfl) (hb hby d1_1) (fun _ _ => ⟨rfl, e0, (by decide : 0 + 0 ≤ _), (by decide : 0 + 0 ≤ _)⟩)
  dsimp only [Pt.U, Pt.locs, Pt.cells, Pt.slots] at X3 l3 y3 z3 st3 hQ3
  subst l3 y3 z3
  obtain ⟨rfl, N3q, e3⟩ := hQ3
  have N3 := Fr.app N0 N3q
  obtain ⟨fs, hr, hrun, hended, hW, hsame⟩ := X3.leave (v := some (.int (1 : Int32))) (fun h => by rw [Bd.returns] at h; cases h)
  refine ⟨_, _, pre0 _ ?_, hrun, hended, _, _, rfl, ?_, ⟨_, rfl⟩, hW, hsame.mono (by decide) (by decide)⟩
  · show Steps p.tables e below (s₁.setTop (mkF m 0 #[.val (.ref a1), .val (.int p2)] [])) _
    refine XS.aloadN X0.here hx rfl (hb hby d1_0) rfl rfl ?_
    show Steps p.tables e below (s₁.setTop (mkF m 1 #[.val (.ref a1), .val (.int p2)] [(.ref a1)])) _
    refine st3.trans ?_
    show Steps p.tables e below (T3.setTop (mkF m 4 #[.val (.ref a1), .val (.int p2)] [(.int (3 : Int32))])) _
    refine XS.tswIn X3.here hx rfl (pc0 := 4) (pc' := 90) (o := 86) rfl (hb hby d1_4) rfl (by decide) rfl (by decide) (by decide) ?_
    show Steps p.tables e below (T3.setTop (mkF m 90 #[.val (.ref a1), .val (.int p2)] [])) _
    refine XS.iloadN X3.here hx rfl (hb hby d1_90) rfl ?_
    show Steps p.tables e below (T3.setTop (mkF m 91 #[.val (.ref a1), .val (.int p2)] [(.int p2)])) _
    refine XS.ifNo X3.here hx rfl (hb hby d1_91) rfl ((if0 _ _).trans (flt hc91).2.2.1) ?_
    show Steps p.tables e below (T3.setTop (mkF m 94 #[.val (.ref a1), .val (.int p2)] [])) _
    refine XS.iconst X3.here hx rfl (hb hby d1_94) ?_
    show Steps p.tables e below (T3.setTop (mkF m 95 #[.val (.ref a1), .val (.int p2)] [(.int (1 : Int32))])) _
    refine XS.goto X3.here hx rfl (pc0 := 95) (pc' := 123) rfl (hb hby d1_95) (by decide) (by decide) ?_
    show Steps p.tables e below (T3.setTop (mkF m 123 #[.val (.ref a1), .val (.int p2)] [(.int (1 : Int32))])) _
    exact retN X3 hx (t := .boolean) Bd.returns (by simp) (hb hby d1_123) hr
  · show Q1 (1 : Int32) h0 n0 _ T3.heap _
    rw [e3]
    exact ⟨rfl, N3, rfl⟩
theorem d1_98 : decode prog_44_method_4_code 98 = .ok (.iconst 0, 1) := by decide +kernel
theorem d1_99 : decode prog_44_method_4_code 99 = .ok (.goto 24, 3) := by decide +kernel
set_option maxRecDepth 65536 in
set_option maxHeartbeats 40000000 in
theorem rm1_3t (l : Launch) (Z : State) (a0 : Array Value) (hw : ∀ d ∈ tables_1, d.before a0 Z = true) (ws : List Jvm.Cond) (a1 : Addr) (p2 : Int32) (h0 : Heap) (n0 : Nat) (Z0 : n0 ≤ h0.size) (E_a1 : Exa Z h0 a1 "com/example/quantorum/quantorum/algebra/Relation") (F1 : Fld Z h0 a1 "java/lang/Enum" "ordinal" "I" (.int (3 : Int32))) (hc91 : (0 : Int32) < p2) :
    MetFree l (⟨"com/example/quantorum/quantorum/algebra/Relation", "holds", "(I)Z"⟩ : MethodName) (head1 (Jvm.Cond.code (⟨"com/example/quantorum/quantorum/algebra/Relation", "holds", "(I)Z"⟩ : MethodName) prog_44_method_4_code 2 (some .boolean) :: ws) ({ frames := 1, cells := 0, slots := 0, locals := 12 } : Room)) (fun a U => a = #[(.ref a1), (.int p2)] ∧ Z.Warmed39 U.vm ∧ U.heap = h0) (fun _ _ _ _ _ => True) (fun _ U o U' => ∃ v L, o = .returned v ∧ Q1 (0 : Int32) h0 n0 v U'.heap L ∧ FrameEnd U o U' L ({ frames := 1, cells := 0, slots := 0, locals := 12 } : Room).cells ({ frames := 1, cells := 0, slots := 0, locals := 12 } : Room).slots) := by
  refine MetFree.of_bodySF (plainFor_of_name pn_1) hisR ?_
  intro p e s m args below meth c s₁ Bd hml0 hP hK
  obtain ⟨rfl, hZ, hh⟩ := hP
  have hx := Bd.exec
  have hby := Bd.bytes
  have hml : c.maxLocals = 2 := hml0
  have hown : s.vm.findClass "com/example/quantorum/quantorum/algebra/Relation" = some m.cls := findClass_of_methodNamed Bd.named
  have hnm := (name_of_methodNamed Bd.named Bd.method).1
  have X0 : Stand p l e ({ frames := 1, cells := 0, slots := 0, locals := 12 } : Room) s m #[(.ref a1), (.int p2)] below meth c s₁ [] 0 0 := Stand.of_body Bd
  have e0 : s₁.heap = h0 := by rw [← hh, Bd.state]; rfl
  have N0 := Fr.nil n0
  have pre0 : ∀ t, Steps p.tables e below (s₁.setTop (mkF m 0 #[.val (.ref a1), .val (.int p2)] [])) t → Steps p.tables e below (s₁.setTop (entryFrame m #[(.ref a1), (.int p2)] 2)) t := fun t k => castTop (ef_1 m a1 p2) k
  obtain ⟨cq3, kq3, q3a, q3b, q3c⟩ := isOf hZ e0 E_a1
  obtain ⟨_, _, ⟨T3, L3, k3, n3⟩, -, X3, ⟨Lc3, hQ3, l3, y3, z3⟩, st3⟩ := X0.virtualBackUp hx (x := (⟨"com/example/quantorum/quantorum/algebra/Relation", "ordinal", "()I"⟩ : MethodName)) (y := (⟨"java/lang/Enum", "ordinal", "()I"⟩ : MethodName)) hown (mvT hZ (hw _ (List.mem_of_getElem? (i := 23) rfl))) (mvT hZ (hw _ (List.mem_of_getElem? (i := 24) rfl))) (mvT hZ (hw _ (List.mem_of_getElem? (i := 25) rfl))) (by decide) (mvT hZ (hw _ (List.mem_of_getElem? (i := 27) rfl))) (mvT hZ (hw _ (List.mem_of_getElem? (i := 26) rfl))) (backOf (W := 0) (rm2 l Z a0 hw [] a1 (3 : Int32) h0 n0 Z0 F1) hZ (hw _ (List.mem_of_getElem? (i := 29) rfl)) (hw _ (List.mem_of_getElem? (i := 28) rfl)) (by decide) (by decide)) q3a q3c (g := (mkF m 1 #[.val (.ref a1), .val (.int p2)] [(.ref a1)])) rfl (by rw [hml]; rfl) (Steps.refl _) (argsL := []) (rest := []) (lenOf pd_1_1 rfl) rfl (by show 2 * 0 + _ ≤ _; exact Nat.le_of_eq rfl) (hb hby d1_1) (fun _ _ => ⟨rfl, e0, (by decide : 0 + 0 ≤ _), (by decide : 0 + 0 ≤ _)⟩)
  dsimp only [Pt.U, Pt.locs, Pt.cells, Pt.slots] at X3 l3 y3 z3 st3 hQ3
  subst l3 y3 z3
  obtain ⟨rfl, N3q, e3⟩ := hQ3
  have N3 := Fr.app N0 N3q
  obtain ⟨fs, hr, hrun, hended, hW, hsame⟩ := X3.leave (v := some (.int (0 : Int32))) (fun h => by rw [Bd.returns] at h; cases h)
  refine ⟨_, _, pre0 _ ?_, hrun, hended, _, _, rfl, ?_, ⟨_, rfl⟩, hW, hsame.mono (by decide) (by decide)⟩
  · show Steps p.tables e below (s₁.setTop (mkF m 0 #[.val (.ref a1), .val (.int p2)] [])) _
    refine XS.aloadN X0.here hx rfl (hb hby d1_0) rfl rfl ?_
    show Steps p.tables e below (s₁.setTop (mkF m 1 #[.val (.ref a1), .val (.int p2)] [(.ref a1)])) _
    refine st3.trans ?_
    show Steps p.tables e below (T3.setTop (mkF m 4 #[.val (.ref a1), .val (.int p2)] [(.int (3 : Int32))])) _
    refine XS.tswIn X3.here hx rfl (pc0 := 4) (pc' := 90) (o := 86) rfl (hb hby d1_4) rfl (by decide) rfl (by decide) (by decide) ?_
    show Steps p.tables e below (T3.setTop (mkF m 90 #[.val (.ref a1), .val (.int p2)] [])) _
    refine XS.iloadN X3.here hx rfl (hb hby d1_90) rfl ?_
    show Steps p.tables e below (T3.setTop (mkF m 91 #[.val (.ref a1), .val (.int p2)] [(.int p2)])) _
    refine XS.ifYes X3.here hx rfl (pc0 := 91) (pc' := 98) rfl (hb hby d1_91) rfl ((if0 _ _).trans (tlt hc91).2.2.1) (by decide) (by decide) ?_
    show Steps p.tables e below (T3.setTop (mkF m 98 #[.val (.ref a1), .val (.int p2)] [])) _
    refine XS.iconst X3.here hx rfl (hb hby d1_98) ?_
    show Steps p.tables e below (T3.setTop (mkF m 99 #[.val (.ref a1), .val (.int p2)] [(.int (0 : Int32))])) _
    refine XS.goto X3.here hx rfl (pc0 := 99) (pc' := 123) rfl (hb hby d1_99) (by decide) (by decide) ?_
    show Steps p.tables e below (T3.setTop (mkF m 123 #[.val (.ref a1), .val (.int p2)] [(.int (0 : Int32))])) _
    exact retN X3 hx (t := .boolean) Bd.returns (by simp) (hb hby d1_123) hr
  · show Q1 (0 : Int32) h0 n0 _ T3.heap _
    rw [e3]
    exact ⟨rfl, N3, rfl⟩
theorem d1_102 : decode prog_44_method_4_code 102 = .ok (.iload_n 1, 1) := by decide +kernel
theorem d1_103 : decode prog_44_method_4_code 103 = .ok (.ifCond .le 7, 3) := by decide +kernel
theorem d1_106 : decode prog_44_method_4_code 106 = .ok (.iconst 1, 1) := by decide +kernel
theorem d1_107 : decode prog_44_method_4_code 107 = .ok (.goto 16, 3) := by decide +kernel
set_option maxRecDepth 65536 in
set_option maxHeartbeats 40000000 in
theorem rm1_4f (l : Launch) (Z : State) (a0 : Array Value) (hw : ∀ d ∈ tables_1, d.before a0 Z = true) (ws : List Jvm.Cond) (a1 : Addr) (p2 : Int32) (h0 : Heap) (n0 : Nat) (Z0 : n0 ≤ h0.size) (E_a1 : Exa Z h0 a1 "com/example/quantorum/quantorum/algebra/Relation") (F1 : Fld Z h0 a1 "java/lang/Enum" "ordinal" "I" (.int (4 : Int32))) (hc103 : (0 : Int32) < p2) :
    MetFree l (⟨"com/example/quantorum/quantorum/algebra/Relation", "holds", "(I)Z"⟩ : MethodName) (head1 (Jvm.Cond.code (⟨"com/example/quantorum/quantorum/algebra/Relation", "holds", "(I)Z"⟩ : MethodName) prog_44_method_4_code 2 (some .boolean) :: ws) ({ frames := 1, cells := 0, slots := 0, locals := 12 } : Room)) (fun a U => a = #[(.ref a1), (.int p2)] ∧ Z.Warmed39 U.vm ∧ U.heap = h0) (fun _ _ _ _ _ => True) (fun _ U o U' => ∃ v L, o = .returned v ∧ Q1 (1 : Int32) h0 n0 v U'.heap L ∧ FrameEnd U o U' L ({ frames := 1, cells := 0, slots := 0, locals := 12 } : Room).cells ({ frames := 1, cells := 0, slots := 0, locals := 12 } : Room).slots) := by
  refine MetFree.of_bodySF (plainFor_of_name pn_1) hisR ?_
  intro p e s m args below meth c s₁ Bd hml0 hP hK
  obtain ⟨rfl, hZ, hh⟩ := hP
  have hx := Bd.exec
  have hby := Bd.bytes
  have hml : c.maxLocals = 2 := hml0
  have hown : s.vm.findClass "com/example/quantorum/quantorum/algebra/Relation" = some m.cls := findClass_of_methodNamed Bd.named
  have hnm := (name_of_methodNamed Bd.named Bd.method).1
  have X0 : Stand p l e ({ frames := 1, cells := 0, slots := 0, locals := 12 } : Room) s m #[(.ref a1), (.int p2)] below meth c s₁ [] 0 0 := Stand.of_body Bd
  have e0 : s₁.heap = h0 := by rw [← hh, Bd.state]; rfl
  have N0 := Fr.nil n0
  have pre0 : ∀ t, Steps p.tables e below (s₁.setTop (mkF m 0 #[.val (.ref a1), .val (.int p2)] [])) t → Steps p.tables e below (s₁.setTop (entryFrame m #[(.ref a1), (.int p2)] 2)) t := fun t k => castTop (ef_1 m a1 p2) k
  obtain ⟨cq3, kq3, q3a, q3b, q3c⟩ := isOf hZ e0 E_a1
  obtain ⟨_, _, ⟨T3, L3, k3, n3⟩, -, X3, ⟨Lc3, hQ3, l3, y3, z3⟩, st3⟩ := X0.virtualBackUp hx (x := (⟨"com/example/quantorum/quantorum/algebra/Relation", "ordinal", "()I"⟩ : MethodName)) (y := (⟨"java/lang/Enum", "ordinal", "()I"⟩ : MethodName)) hown (mvT hZ (hw _ (List.mem_of_getElem? (i := 23) rfl))) (mvT hZ (hw _ (List.mem_of_getElem? (i := 24) rfl))) (mvT hZ (hw _ (List.mem_of_getElem? (i := 25) rfl))) (by decide) (mvT hZ (hw _ (List.mem_of_getElem? (i := 27) rfl))) (mvT hZ (hw _ (List.mem_of_getElem? (i := 26) rfl))) (backOf (W := 0) (rm2 l Z a0 hw [] a1 (4 : Int32) h0 n0 Z0 F1) hZ (hw _ (List.mem_of_getElem? (i := 29) rfl)) (hw _ (List.mem_of_getElem? (i := 28) rfl)) (by decide) (by decide)) q3a q3c (g := (mkF m 1 #[.val (.ref a1), .val (.int p2)] [(.ref a1)])) rfl (by rw [hml]; rfl) (Steps.refl _) (argsL := []) (rest := []) (lenOf pd_1_1 rfl) rfl (by show 2 * 0 + _ ≤ _; exact Nat.le_of_eq rfl) (hb hby d1_1) (fun _ _ => ⟨rfl, e0, (by decide : 0 + 0 ≤ _), (by decide : 0 + 0 ≤ _)⟩)
  dsimp only [Pt.U, Pt.locs, Pt.cells, Pt.slots] at X3 l3 y3 z3 st3 hQ3
  subst l3 y3 z3
  obtain ⟨rfl, N3q, e3⟩ := hQ3
  have N3 := Fr.app N0 N3q
  obtain ⟨fs, hr, hrun, hended, hW, hsame⟩ := X3.leave (v := some (.int (1 : Int32))) (fun h => by rw [Bd.returns] at h; cases h)
  refine ⟨_, _, pre0 _ ?_, hrun, hended, _, _, rfl, ?_, ⟨_, rfl⟩, hW, hsame.mono (by decide) (by decide)⟩
  · show Steps p.tables e below (s₁.setTop (mkF m 0 #[.val (.ref a1), .val (.int p2)] [])) _
    refine XS.aloadN X0.here hx rfl (hb hby d1_0) rfl rfl ?_
    show Steps p.tables e below (s₁.setTop (mkF m 1 #[.val (.ref a1), .val (.int p2)] [(.ref a1)])) _
    refine st3.trans ?_
    show Steps p.tables e below (T3.setTop (mkF m 4 #[.val (.ref a1), .val (.int p2)] [(.int (4 : Int32))])) _
    refine XS.tswIn X3.here hx rfl (pc0 := 4) (pc' := 102) (o := 98) rfl (hb hby d1_4) rfl (by decide) rfl (by decide) (by decide) ?_
    show Steps p.tables e below (T3.setTop (mkF m 102 #[.val (.ref a1), .val (.int p2)] [])) _
    refine XS.iloadN X3.here hx rfl (hb hby d1_102) rfl ?_
    show Steps p.tables e below (T3.setTop (mkF m 103 #[.val (.ref a1), .val (.int p2)] [(.int p2)])) _
    refine XS.ifNo X3.here hx rfl (hb hby d1_103) rfl ((if0 _ _).trans (tlt hc103).2.2.2) ?_
    show Steps p.tables e below (T3.setTop (mkF m 106 #[.val (.ref a1), .val (.int p2)] [])) _
    refine XS.iconst X3.here hx rfl (hb hby d1_106) ?_
    show Steps p.tables e below (T3.setTop (mkF m 107 #[.val (.ref a1), .val (.int p2)] [(.int (1 : Int32))])) _
    refine XS.goto X3.here hx rfl (pc0 := 107) (pc' := 123) rfl (hb hby d1_107) (by decide) (by decide) ?_
    show Steps p.tables e below (T3.setTop (mkF m 123 #[.val (.ref a1), .val (.int p2)] [(.int (1 : Int32))])) _
    exact retN X3 hx (t := .boolean) Bd.returns (by simp) (hb hby d1_123) hr
  · show Q1 (1 : Int32) h0 n0 _ T3.heap _
    rw [e3]
    exact ⟨rfl, N3, rfl⟩
theorem d1_110 : decode prog_44_method_4_code 110 = .ok (.iconst 0, 1) := by decide +kernel
theorem d1_111 : decode prog_44_method_4_code 111 = .ok (.goto 12, 3) := by decide +kernel
set_option maxRecDepth 65536 in
set_option maxHeartbeats 40000000 in
theorem rm1_4t (l : Launch) (Z : State) (a0 : Array Value) (hw : ∀ d ∈ tables_1, d.before a0 Z = true) (ws : List Jvm.Cond) (a1 : Addr) (p2 : Int32) (h0 : Heap) (n0 : Nat) (Z0 : n0 ≤ h0.size) (E_a1 : Exa Z h0 a1 "com/example/quantorum/quantorum/algebra/Relation") (F1 : Fld Z h0 a1 "java/lang/Enum" "ordinal" "I" (.int (4 : Int32))) (hc103 : ¬ ((0 : Int32) < p2)) :
    MetFree l (⟨"com/example/quantorum/quantorum/algebra/Relation", "holds", "(I)Z"⟩ : MethodName) (head1 (Jvm.Cond.code (⟨"com/example/quantorum/quantorum/algebra/Relation", "holds", "(I)Z"⟩ : MethodName) prog_44_method_4_code 2 (some .boolean) :: ws) ({ frames := 1, cells := 0, slots := 0, locals := 12 } : Room)) (fun a U => a = #[(.ref a1), (.int p2)] ∧ Z.Warmed39 U.vm ∧ U.heap = h0) (fun _ _ _ _ _ => True) (fun _ U o U' => ∃ v L, o = .returned v ∧ Q1 (0 : Int32) h0 n0 v U'.heap L ∧ FrameEnd U o U' L ({ frames := 1, cells := 0, slots := 0, locals := 12 } : Room).cells ({ frames := 1, cells := 0, slots := 0, locals := 12 } : Room).slots) := by
  refine MetFree.of_bodySF (plainFor_of_name pn_1) hisR ?_
  intro p e s m args below meth c s₁ Bd hml0 hP hK
  obtain ⟨rfl, hZ, hh⟩ := hP
  have hx := Bd.exec
  have hby := Bd.bytes
  have hml : c.maxLocals = 2 := hml0
  have hown : s.vm.findClass "com/example/quantorum/quantorum/algebra/Relation" = some m.cls := findClass_of_methodNamed Bd.named
  have hnm := (name_of_methodNamed Bd.named Bd.method).1
  have X0 : Stand p l e ({ frames := 1, cells := 0, slots := 0, locals := 12 } : Room) s m #[(.ref a1), (.int p2)] below meth c s₁ [] 0 0 := Stand.of_body Bd
  have e0 : s₁.heap = h0 := by rw [← hh, Bd.state]; rfl
  have N0 := Fr.nil n0
  have pre0 : ∀ t, Steps p.tables e below (s₁.setTop (mkF m 0 #[.val (.ref a1), .val (.int p2)] [])) t → Steps p.tables e below (s₁.setTop (entryFrame m #[(.ref a1), (.int p2)] 2)) t := fun t k => castTop (ef_1 m a1 p2) k
  obtain ⟨cq3, kq3, q3a, q3b, q3c⟩ := isOf hZ e0 E_a1
  obtain ⟨_, _, ⟨T3, L3, k3, n3⟩, -, X3, ⟨Lc3, hQ3, l3, y3, z3⟩, st3⟩ := X0.virtualBackUp hx (x := (⟨"com/example/quantorum/quantorum/algebra/Relation", "ordinal", "()I"⟩ : MethodName)) (y := (⟨"java/lang/Enum", "ordinal", "()I"⟩ : MethodName)) hown (mvT hZ (hw _ (List.mem_of_getElem? (i := 23) rfl))) (mvT hZ (hw _ (List.mem_of_getElem? (i := 24) rfl))) (mvT hZ (hw _ (List.mem_of_getElem? (i := 25) rfl))) (by decide) (mvT hZ (hw _ (List.mem_of_getElem? (i := 27) rfl))) (mvT hZ (hw _ (List.mem_of_getElem? (i := 26) rfl))) (backOf (W := 0) (rm2 l Z a0 hw [] a1 (4 : Int32) h0 n0 Z0 F1) hZ (hw _ (List.mem_of_getElem? (i := 29) rfl)) (hw _ (List.mem_of_getElem? (i := 28) rfl)) (by decide) (by decide)) q3a q3c (g := (mkF m 1 #[.val (.ref a1), .val (.int p2)] [(.ref a1)])) rfl (by rw [hml]; rfl) (Steps.refl _) (argsL := []) (rest := []) (lenOf pd_1_1 rfl) rfl (by show 2 * 0 + _ ≤ _; exact Nat.le_of_eq rfl) (hb hby d1_1) (fun _ _ => ⟨rfl, e0, (by decide : 0 + 0 ≤ _), (by decide : 0 + 0 ≤ _)⟩)
  dsimp only [Pt.U, Pt.locs, Pt.cells, Pt.slots] at X3 l3 y3 z3 st3 hQ3
  subst l3 y3 z3
  obtain ⟨rfl, N3q, e3⟩ := hQ3
  have N3 := Fr.app N0 N3q
  obtain ⟨fs, hr, hrun, hended, hW, hsame⟩ := X3.leave (v := some (.int (0 : Int32))) (fun h => by rw [Bd.returns] at h; cases h)
  refine ⟨_, _, pre0 _ ?_, hrun, hended, _, _, rfl, ?_, ⟨_, rfl⟩, hW, hsame.mono (by decide) (by decide)⟩
  · show Steps p.tables e below (s₁.setTop (mkF m 0 #[.val (.ref a1), .val (.int p2)] [])) _
    refine XS.aloadN X0.here hx rfl (hb hby d1_0) rfl rfl ?_
    show Steps p.tables e below (s₁.setTop (mkF m 1 #[.val (.ref a1), .val (.int p2)] [(.ref a1)])) _
    refine st3.trans ?_
    show Steps p.tables e below (T3.setTop (mkF m 4 #[.val (.ref a1), .val (.int p2)] [(.int (4 : Int32))])) _
    refine XS.tswIn X3.here hx rfl (pc0 := 4) (pc' := 102) (o := 98) rfl (hb hby d1_4) rfl (by decide) rfl (by decide) (by decide) ?_
    show Steps p.tables e below (T3.setTop (mkF m 102 #[.val (.ref a1), .val (.int p2)] [])) _
    refine XS.iloadN X3.here hx rfl (hb hby d1_102) rfl ?_
    show Steps p.tables e below (T3.setTop (mkF m 103 #[.val (.ref a1), .val (.int p2)] [(.int p2)])) _
    refine XS.ifYes X3.here hx rfl (pc0 := 103) (pc' := 110) rfl (hb hby d1_103) rfl ((if0 _ _).trans (flt hc103).2.2.2) (by decide) (by decide) ?_
    show Steps p.tables e below (T3.setTop (mkF m 110 #[.val (.ref a1), .val (.int p2)] [])) _
    refine XS.iconst X3.here hx rfl (hb hby d1_110) ?_
    show Steps p.tables e below (T3.setTop (mkF m 111 #[.val (.ref a1), .val (.int p2)] [(.int (0 : Int32))])) _
    refine XS.goto X3.here hx rfl (pc0 := 111) (pc' := 123) rfl (hb hby d1_111) (by decide) (by decide) ?_
    show Steps p.tables e below (T3.setTop (mkF m 123 #[.val (.ref a1), .val (.int p2)] [(.int (0 : Int32))])) _
    exact retN X3 hx (t := .boolean) Bd.returns (by simp) (hb hby d1_123) hr
  · show Q1 (0 : Int32) h0 n0 _ T3.heap _
    rw [e3]
    exact ⟨rfl, N3, rfl⟩
theorem d1_114 : decode prog_44_method_4_code 114 = .ok (.iload_n 1, 1) := by decide +kernel
theorem d1_115 : decode prog_44_method_4_code 115 = .ok (.ifCond .lt 7, 3) := by decide +kernel
theorem d1_118 : decode prog_44_method_4_code 118 = .ok (.iconst 1, 1) := by decide +kernel
theorem d1_119 : decode prog_44_method_4_code 119 = .ok (.goto 4, 3) := by decide +kernel
set_option maxRecDepth 65536 in
set_option maxHeartbeats 40000000 in
theorem rm1_5f (l : Launch) (Z : State) (a0 : Array Value) (hw : ∀ d ∈ tables_1, d.before a0 Z = true) (ws : List Jvm.Cond) (a1 : Addr) (p2 : Int32) (h0 : Heap) (n0 : Nat) (Z0 : n0 ≤ h0.size) (E_a1 : Exa Z h0 a1 "com/example/quantorum/quantorum/algebra/Relation") (F1 : Fld Z h0 a1 "java/lang/Enum" "ordinal" "I" (.int (5 : Int32))) (hc115 : ¬ (p2 < (0 : Int32))) :
    MetFree l (⟨"com/example/quantorum/quantorum/algebra/Relation", "holds", "(I)Z"⟩ : MethodName) (head1 (Jvm.Cond.code (⟨"com/example/quantorum/quantorum/algebra/Relation", "holds", "(I)Z"⟩ : MethodName) prog_44_method_4_code 2 (some .boolean) :: ws) ({ frames := 1, cells := 0, slots := 0, locals := 12 } : Room)) (fun a U => a = #[(.ref a1), (.int p2)] ∧ Z.Warmed39 U.vm ∧ U.heap = h0) (fun _ _ _ _ _ => True) (fun _ U o U' => ∃ v L, o = .returned v ∧ Q1 (1 : Int32) h0 n0 v U'.heap L ∧ FrameEnd U o U' L ({ frames := 1, cells := 0, slots := 0, locals := 12 } : Room).cells ({ frames := 1, cells := 0, slots := 0, locals := 12 } : Room).slots) := by
  refine MetFree.of_bodySF (plainFor_of_name pn_1) hisR ?_
  intro p e s m args below meth c s₁ Bd hml0 hP hK
  obtain ⟨rfl, hZ, hh⟩ := hP
  have hx := Bd.exec
  have hby := Bd.bytes
  have hml : c.maxLocals = 2 := hml0
  have hown : s.vm.findClass "com/example/quantorum/quantorum/algebra/Relation" = some m.cls := findClass_of_methodNamed Bd.named
  have hnm := (name_of_methodNamed Bd.named Bd.method).1
  have X0 : Stand p l e ({ frames := 1, cells := 0, slots := 0, locals := 12 } : Room) s m #[(.ref a1), (.int p2)] below meth c s₁ [] 0 0 := Stand.of_body Bd
  have e0 : s₁.heap = h0 := by rw [← hh, Bd.state]; rfl
  have N0 := Fr.nil n0
  have pre0 : ∀ t, Steps p.tables e below (s₁.setTop (mkF m 0 #[.val (.ref a1), .val (.int p2)] [])) t → Steps p.tables e below (s₁.setTop (entryFrame m #[(.ref a1), (.int p2)] 2)) t := fun t k => castTop (ef_1 m a1 p2) k
  obtain ⟨cq3, kq3, q3a, q3b, q3c⟩ := isOf hZ e0 E_a1
  obtain ⟨_, _, ⟨T3, L3, k3, n3⟩, -, X3, ⟨Lc3, hQ3, l3, y3, z3⟩, st3⟩ := X0.virtualBackUp hx (x := (⟨"com/example/quantorum/quantorum/algebra/Relation", "ordinal", "()I"⟩ : MethodName)) (y := (⟨"java/lang/Enum", "ordinal", "()I"⟩ : MethodName)) hown (mvT hZ (hw _ (List.mem_of_getElem? (i := 23) rfl))) (mvT hZ (hw _ (List.mem_of_getElem? (i := 24) rfl))) (mvT hZ (hw _ (List.mem_of_getElem? (i := 25) rfl))) (by decide) (mvT hZ (hw _ (List.mem_of_getElem? (i := 27) rfl))) (mvT hZ (hw _ (List.mem_of_getElem? (i := 26) rfl))) (backOf (W := 0) (rm2 l Z a0 hw [] a1 (5 : Int32) h0 n0 Z0 F1) hZ (hw _ (List.mem_of_getElem? (i := 29) rfl)) (hw _ (List.mem_of_getElem? (i := 28) rfl)) (by decide) (by decide)) q3a q3c (g := (mkF m 1 #[.val (.ref a1), .val (.int p2)] [(.ref a1)])) rfl (by rw [hml]; rfl) (Steps.refl _) (argsL := []) (rest := []) (lenOf pd_1_1 rfl) rfl (by show 2 * 0 + _ ≤ _; exact Nat.le_of_eq rfl) (hb hby d1_1) (fun _ _ => ⟨rfl, e0, (by decide : 0 + 0 ≤ _), (by decide : 0 + 0 ≤ _)⟩)
  dsimp only [Pt.U, Pt.locs, Pt.cells, Pt.slots] at X3 l3 y3 z3 st3 hQ3
  subst l3 y3 z3
  obtain ⟨rfl, N3q, e3⟩ := hQ3
  have N3 := Fr.app N0 N3q
  obtain ⟨fs, hr, hrun, hended, hW, hsame⟩ := X3.leave (v := some (.int (1 : Int32))) (fun h => by rw [Bd.returns] at h; cases h)
  refine ⟨_, _, pre0 _ ?_, hrun, hended, _, _, rfl, ?_, ⟨_, rfl⟩, hW, hsame.mono (by decide) (by decide)⟩
  · show Steps p.tables e below (s₁.setTop (mkF m 0 #[.val (.ref a1), .val (.int p2)] [])) _
    refine XS.aloadN X0.here hx rfl (hb hby d1_0) rfl rfl ?_
    show Steps p.tables e below (s₁.setTop (mkF m 1 #[.val (.ref a1), .val (.int p2)] [(.ref a1)])) _
    refine st3.trans ?_
    show Steps p.tables e below (T3.setTop (mkF m 4 #[.val (.ref a1), .val (.int p2)] [(.int (5 : Int32))])) _
    refine XS.tswIn X3.here hx rfl (pc0 := 4) (pc' := 114) (o := 110) rfl (hb hby d1_4) rfl (by decide) rfl (by decide) (by decide) ?_
    show Steps p.tables e below (T3.setTop (mkF m 114 #[.val (.ref a1), .val (.int p2)] [])) _
    refine XS.iloadN X3.here hx rfl (hb hby d1_114) rfl ?_
    show Steps p.tables e below (T3.setTop (mkF m 115 #[.val (.ref a1), .val (.int p2)] [(.int p2)])) _
    refine XS.ifNo X3.here hx rfl (hb hby d1_115) rfl ((if0 _ _).trans (flt hc115).1) ?_
    show Steps p.tables e below (T3.setTop (mkF m 118 #[.val (.ref a1), .val (.int p2)] [])) _
    refine XS.iconst X3.here hx rfl (hb hby d1_118) ?_
    show Steps p.tables e below (T3.setTop (mkF m 119 #[.val (.ref a1), .val (.int p2)] [(.int (1 : Int32))])) _
    refine XS.goto X3.here hx rfl (pc0 := 119) (pc' := 123) rfl (hb hby d1_119) (by decide) (by decide) ?_
    show Steps p.tables e below (T3.setTop (mkF m 123 #[.val (.ref a1), .val (.int p2)] [(.int (1 : Int32))])) _
    exact retN X3 hx (t := .boolean) Bd.returns (by simp) (hb hby d1_123) hr
  · show Q1 (1 : Int32) h0 n0 _ T3.heap _
    rw [e3]
    exact ⟨rfl, N3, rfl⟩
theorem d1_122 : decode prog_44_method_4_code 122 = .ok (.iconst 0, 1) := by decide +kernel
set_option maxRecDepth 65536 in
set_option maxHeartbeats 40000000 in
theorem rm1_5t (l : Launch) (Z : State) (a0 : Array Value) (hw : ∀ d ∈ tables_1, d.before a0 Z = true) (ws : List Jvm.Cond) (a1 : Addr) (p2 : Int32) (h0 : Heap) (n0 : Nat) (Z0 : n0 ≤ h0.size) (E_a1 : Exa Z h0 a1 "com/example/quantorum/quantorum/algebra/Relation") (F1 : Fld Z h0 a1 "java/lang/Enum" "ordinal" "I" (.int (5 : Int32))) (hc115 : p2 < (0 : Int32)) :
    MetFree l (⟨"com/example/quantorum/quantorum/algebra/Relation", "holds", "(I)Z"⟩ : MethodName) (head1 (Jvm.Cond.code (⟨"com/example/quantorum/quantorum/algebra/Relation", "holds", "(I)Z"⟩ : MethodName) prog_44_method_4_code 2 (some .boolean) :: ws) ({ frames := 1, cells := 0, slots := 0, locals := 12 } : Room)) (fun a U => a = #[(.ref a1), (.int p2)] ∧ Z.Warmed39 U.vm ∧ U.heap = h0) (fun _ _ _ _ _ => True) (fun _ U o U' => ∃ v L, o = .returned v ∧ Q1 (0 : Int32) h0 n0 v U'.heap L ∧ FrameEnd U o U' L ({ frames := 1, cells := 0, slots := 0, locals := 12 } : Room).cells ({ frames := 1, cells := 0, slots := 0, locals := 12 } : Room).slots) := by
  refine MetFree.of_bodySF (plainFor_of_name pn_1) hisR ?_
  intro p e s m args below meth c s₁ Bd hml0 hP hK
  obtain ⟨rfl, hZ, hh⟩ := hP
  have hx := Bd.exec
  have hby := Bd.bytes
  have hml : c.maxLocals = 2 := hml0
  have hown : s.vm.findClass "com/example/quantorum/quantorum/algebra/Relation" = some m.cls := findClass_of_methodNamed Bd.named
  have hnm := (name_of_methodNamed Bd.named Bd.method).1
  have X0 : Stand p l e ({ frames := 1, cells := 0, slots := 0, locals := 12 } : Room) s m #[(.ref a1), (.int p2)] below meth c s₁ [] 0 0 := Stand.of_body Bd
  have e0 : s₁.heap = h0 := by rw [← hh, Bd.state]; rfl
  have N0 := Fr.nil n0
  have pre0 : ∀ t, Steps p.tables e below (s₁.setTop (mkF m 0 #[.val (.ref a1), .val (.int p2)] [])) t → Steps p.tables e below (s₁.setTop (entryFrame m #[(.ref a1), (.int p2)] 2)) t := fun t k => castTop (ef_1 m a1 p2) k
  obtain ⟨cq3, kq3, q3a, q3b, q3c⟩ := isOf hZ e0 E_a1
  obtain ⟨_, _, ⟨T3, L3, k3, n3⟩, -, X3, ⟨Lc3, hQ3, l3, y3, z3⟩, st3⟩ := X0.virtualBackUp hx (x := (⟨"com/example/quantorum/quantorum/algebra/Relation", "ordinal", "()I"⟩ : MethodName)) (y := (⟨"java/lang/Enum", "ordinal", "()I"⟩ : MethodName)) hown (mvT hZ (hw _ (List.mem_of_getElem? (i := 23) rfl))) (mvT hZ (hw _ (List.mem_of_getElem? (i := 24) rfl))) (mvT hZ (hw _ (List.mem_of_getElem? (i := 25) rfl))) (by decide) (mvT hZ (hw _ (List.mem_of_getElem? (i := 27) rfl))) (mvT hZ (hw _ (List.mem_of_getElem? (i := 26) rfl))) (backOf (W := 0) (rm2 l Z a0 hw [] a1 (5 : Int32) h0 n0 Z0 F1) hZ (hw _ (List.mem_of_getElem? (i := 29) rfl)) (hw _ (List.mem_of_getElem? (i := 28) rfl)) (by decide) (by decide)) q3a q3c (g := (mkF m 1 #[.val (.ref a1), .val (.int p2)] [(.ref a1)])) rfl (by rw [hml]; rfl) (Steps.refl _) (argsL := []) (rest := []) (lenOf pd_1_1 rfl) rfl (by show 2 * 0 + _ ≤ _; exact Nat.le_of_eq rfl) (hb hby d1_1) (fun _ _ => ⟨rfl, e0, (by decide : 0 + 0 ≤ _), (by decide : 0 + 0 ≤ _)⟩)
  dsimp only [Pt.U, Pt.locs, Pt.cells, Pt.slots] at X3 l3 y3 z3 st3 hQ3
  subst l3 y3 z3
  obtain ⟨rfl, N3q, e3⟩ := hQ3
  have N3 := Fr.app N0 N3q
  obtain ⟨fs, hr, hrun, hended, hW, hsame⟩ := X3.leave (v := some (.int (0 : Int32))) (fun h => by rw [Bd.returns] at h; cases h)
  refine ⟨_, _, pre0 _ ?_, hrun, hended, _, _, rfl, ?_, ⟨_, rfl⟩, hW, hsame.mono (by decide) (by decide)⟩
  · show Steps p.tables e below (s₁.setTop (mkF m 0 #[.val (.ref a1), .val (.int p2)] [])) _
    refine XS.aloadN X0.here hx rfl (hb hby d1_0) rfl rfl ?_
    show Steps p.tables e below (s₁.setTop (mkF m 1 #[.val (.ref a1), .val (.int p2)] [(.ref a1)])) _
    refine st3.trans ?_
    show Steps p.tables e below (T3.setTop (mkF m 4 #[.val (.ref a1), .val (.int p2)] [(.int (5 : Int32))])) _
    refine XS.tswIn X3.here hx rfl (pc0 := 4) (pc' := 114) (o := 110) rfl (hb hby d1_4) rfl (by decide) rfl (by decide) (by decide) ?_
    show Steps p.tables e below (T3.setTop (mkF m 114 #[.val (.ref a1), .val (.int p2)] [])) _
    refine XS.iloadN X3.here hx rfl (hb hby d1_114) rfl ?_
    show Steps p.tables e below (T3.setTop (mkF m 115 #[.val (.ref a1), .val (.int p2)] [(.int p2)])) _
    refine XS.ifYes X3.here hx rfl (pc0 := 115) (pc' := 122) rfl (hb hby d1_115) rfl ((if0 _ _).trans (tlt hc115).1) (by decide) (by decide) ?_
    show Steps p.tables e below (T3.setTop (mkF m 122 #[.val (.ref a1), .val (.int p2)] [])) _
    refine XS.iconst X3.here hx rfl (hb hby d1_122) ?_
    show Steps p.tables e below (T3.setTop (mkF m 123 #[.val (.ref a1), .val (.int p2)] [(.int (0 : Int32))])) _
    exact retN X3 hx (t := .boolean) Bd.returns (by simp) (hb hby d1_123) hr
  · show Q1 (0 : Int32) h0 n0 _ T3.heap _
    rw [e3]
    exact ⟨rfl, N3, rfl⟩
def own_Call (l : Launch) (Z : State) (a1 : Addr) (p2 b : Int32) (h0 : Heap) (n0 : Nat) : Prop := MetFree l (⟨"com/example/quantorum/quantorum/algebra/Relation", "holds", "(I)Z"⟩ : MethodName) (head1 (Jvm.Cond.code (⟨"com/example/quantorum/quantorum/algebra/Relation", "holds", "(I)Z"⟩ : MethodName) prog_44_method_4_code 2 (some .boolean) :: []) ({ frames := 1, cells := 0, slots := 0, locals := 12 } : Room)) (fun a U => a = #[(.ref a1), (.int p2)] ∧ Z.Warmed39 U.vm ∧ U.heap = h0) (fun _ _ _ _ _ => True) (fun _ U o U' => ∃ v L, o = .returned v ∧ Q1 b h0 n0 v U'.heap L ∧ FrameEnd U o U' L ({ frames := 1, cells := 0, slots := 0, locals := 12 } : Room).cells ({ frames := 1, cells := 0, slots := 0, locals := 12 } : Room).slots)
def Q0 (n0 : Nat) (v : Option Value) (L : List Loc) : Prop := v = some (.int (1 : Int32)) ∧ Fr n0 L
theorem pn_0 : plainName "com/example/quantorum/quantorum/algebra/RelationHoldsPinLaw" = true := by first | (simp [plainName, overriddenIn]; done) | decide +kernel
theorem pd_0_0 : parseMethodDescriptor "(I)Z" = some ⟨[.int], some .boolean⟩ := by decide +kernel
theorem ef_0 (m : MethodId) (x0 : Int32) (x1 : Int32) : entryFrame m #[(.int x0), (.int x1)] maxLocals = mkF m 0 #[.val (.int x0), .val (.int x1), .unset, .unset, .unset, .unset, .unset, .unset] [] := by first | (simp [entryFrame, mkF, argsToLocals, Value.category, maxLocals]; done) | rfl
set_option maxRecDepth 65536 in
set_option maxHeartbeats 40000000 in
theorem rm0_00 (l : Launch) (Z : State) (a0 : Array Value) (hw : ∀ d ∈ tables_1, d.before a0 Z = true) (ws : List Jvm.Cond) (p1 : Int32) (p2 : Int32) (w4 : Addr) (w7 : Addr) (w10 : Addr) (w13 : Addr) (w16 : Addr) (w19 : Addr) (w29 : Addr) (w30 : Int32) (h0 : Heap) (n0 : Nat) (Z0 : n0 ≤ h0.size) (S_EQUAL : Sta Z h0 "com/example/quantorum/quantorum/algebra/Relation" "EQUAL" "Lcom/example/quantorum/quantorum/algebra/Relation;" (.ref w4)) (E_w4 : Exa Z h0 w4 "com/example/quantorum/quantorum/algebra/Relation") (S_NOT_EQUAL : Sta Z h0 "com/example/quantorum/quantorum/algebra/Relation" "NOT_EQUAL" "Lcom/example/quantorum/quantorum/algebra/Relation;" (.ref w7)) (E_w7 : Exa Z h0 w7 "com/example/quantorum/quantorum/algebra/Relation") (S_LESS : Sta Z h0 "com/example/quantorum/quantorum/algebra/Relation" "LESS" "Lcom/example/quantorum/quantorum/algebra/Relation;" (.ref w10)) (E_w10 : Exa Z h0 w10 "com/example/quantorum/quantorum/algebra/Relation") (S_LESS_OR_EQUAL : Sta Z h0 "com/example/quantorum/quantorum/algebra/Relation" "LESS_OR_EQUAL" "Lcom/example/quantorum/quantorum/algebra/Relation;" (.ref w13)) (E_w13 : Exa Z h0 w13 "com/example/quantorum/quantorum/algebra/Relation") (S_GREATER : Sta Z h0 "com/example/quantorum/quantorum/algebra/Relation" "GREATER" "Lcom/example/quantorum/quantorum/algebra/Relation;" (.ref w16)) (E_w16 : Exa Z h0 w16 "com/example/quantorum/quantorum/algebra/Relation") (S_GREATER_OR_EQUAL : Sta Z h0 "com/example/quantorum/quantorum/algebra/Relation" "GREATER_OR_EQUAL" "Lcom/example/quantorum/quantorum/algebra/Relation;" (.ref w19)) (E_w19 : Exa Z h0 w19 "com/example/quantorum/quantorum/algebra/Relation") (hlo84 : ¬ ((p1 &&& (2147483647 : Int32)) % (6 : Int32)) < 0 ∧ ((p1 &&& (2147483647 : Int32)) % (6 : Int32)) < (6 : Int32)) (hel84 : ([(.ref w4), (.ref w7), (.ref w10), (.ref w13), (.ref w16), (.ref w19)] : List Value).getD (((p1 &&& (2147483647 : Int32)) % (6 : Int32))).toNatClampNeg .null = (.ref w29)) (hlo113 : ¬ ((p1 &&& (2147483647 : Int32)) % (6 : Int32)) < 0 ∧ ((p1 &&& (2147483647 : Int32)) % (6 : Int32)) < (6 : Int32)) (hel113 : ([(.int (2 : Int32)), (.int (5 : Int32)), (.int (1 : Int32)), (.int (3 : Int32)), (.int (4 : Int32)), (.int (6 : Int32))] : List Value).getD (((p1 &&& (2147483647 : Int32)) % (6 : Int32))).toNatClampNeg (.int (0 : Int32)) = (.int w30)) (E_w29 : Exa Z h0 w29 "com/example/quantorum/quantorum/algebra/Relation") (hcall : ∀ h, Keep h0 h [] → n0 ≤ h.size → own_Call l Z w29 p2 (0 : Int32) h n0) (hc88 : p2 < (0 : Int32)) (hc119 : ((w30 >>> ((0 : Int32) &&& 31)) &&& (1 : Int32)) = (0 : Int32)) :
    MetFree l x (head1 (Jvm.Cond.code x code maxLocals ret :: ws) room_1) (fun a U => a = #[(.int p1), (.int p2)] ∧ Z.Warmed39 U.vm ∧ U.heap = h0) (fun _ _ _ _ _ => True) (fun _ U o U' => ∃ v L, o = .returned v ∧ Q0 n0 v L ∧ FrameEnd U o U' L room_1.cells room_1.slots) := by
  refine MetFree.of_bodySF (plainFor_of_name pn_0) hisR ?_
  intro p e s m args below meth c s₁ Bd hml0 hP hK
  obtain ⟨rfl, hZ, hh⟩ := hP
  have hx := Bd.exec
  have hby := Bd.bytes
  have hml : c.maxLocals = 8 := hml0
  have hown : s.vm.findClass "com/example/quantorum/quantorum/algebra/RelationHoldsPinLaw" = some m.cls := findClass_of_methodNamed Bd.named
  have hnm := (name_of_methodNamed Bd.named Bd.method).1
  have X0 : Stand p l e room_1 s m #[(.int p1), (.int p2)] below meth c s₁ [] 0 0 := Stand.of_body Bd
  have e0 : s₁.heap = h0 := by rw [← hh, Bd.state]; rfl
  have N0 := Fr.nil n0
  have pre0 : ∀ t, Steps p.tables e below (s₁.setTop (mkF m 0 #[.val (.int p1), .val (.int p2), .unset, .unset, .unset, .unset, .unset, .unset] [])) t → Steps p.tables e below (s₁.setTop (entryFrame m #[(.int p1), (.int p2)] maxLocals)) t := fun t k => castTop (ef_0 m p1 p2) k
  obtain ⟨T3, h3, k3, X3, e3, E3, A3, O3, st3⟩ := newR X0 hx hZ hown (hw _ (List.mem_of_getElem? (i := 0) rfl)) (hw _ (List.mem_of_getElem? (i := 1) rfl)) e0 (g := (mkF m 2 #[.val (.int p1), .val (.int p2), .unset, .unset, .unset, .unset, .unset, .unset] [(.int (6 : Int32))])) rfl (hb hby at_2) rfl (by decide) (cap := 6) (by decide) (by decide) (by decide) (by decide)
  obtain ⟨b3, g3⟩ : ∃ z, z = h0.size := ⟨_, rfl⟩      -- the fresh array's address
  rw [← g3] at A3 st3
  have V_b3 : Arv Z h3 b3 k3 (.object "com/example/quantorum/quantorum/algebra/Relation") (6 : Int32) [.null, .null, .null, .null, .null, .null] .null := (Arv.new A3 (by decide)).pad (pad_rep [] .null 6)
  have g_b3 : n0 ≤ b3 := Nat.le_trans Z0 (Nat.le_of_eq g3.symm)
  have sz_b3 : h0.size ≤ b3 := (Nat.le_trans (Keep.refl h0 []).1 (Nat.le_of_eq g3.symm))
  have K3 : Keep h0 h3 [] := (Keep.refl h0 []).ext E3
  obtain ⟨T5, X5, e5, st5⟩ := getS2 X3 hx hZ hown (host := "") (Or.inl (hw _ (List.mem_of_getElem? (i := 2) rfl))) Via.refl e3 (S_EQUAL.ext (own_ext K3)) (g := (mkF m 7 #[.val (.int p1), .val (.int p2), .unset, .unset, .unset, .unset, .unset, .unset] [(.int (0 : Int32)), (.ref b3), (.ref b3)])) rfl (hb hby at_7)
  obtain ⟨cl_b3_10, Ar_b3, q_b3, S_b3, N_b3, H_b3, G_b3⟩ := V_b3
  have hin10 : ¬ ((0 : Int32) < 0 ∨ cl_b3_10.slots.size ≤ ((0 : Int32)).toNatClampNeg) := inb_of S_b3 ⟨by decide, by decide⟩
  have Sto10 : Sto Z h3 b3 (.ref w4) := Sto.ofV Ar_b3 q_b3 O3 (Ins.self (E_w4.keep K3))
  obtain ⟨T6, h6, X6, e6, W6, st6⟩ := stR X5 hx hZ e5 Ar_b3 (j := (0 : Int32)) hin10 rfl Sto10 (g := (mkF m 10 #[.val (.int p1), .val (.int p2), .unset, .unset, .unset, .unset, .unset, .unset] [(.ref w4), (.int (0 : Int32)), (.ref b3), (.ref b3)])) rfl rfl (hb hby at_10)
  have V_b3_6 := Arv.set Ar_b3 q_b3 S_b3 N_b3 H_b3 G_b3 rfl W6 0 rfl (Nat.le_of_ble_eq_true rfl)
  have K6 : Keep h0 h6 [] := K3.wr W6 (Or.inr sz_b3)
  have N6 := Fr.snoc X6 N0 g_b3
  obtain ⟨T8, X8, e8, st8⟩ := getS2 X6 hx hZ hown (host := "") (Or.inl (hw _ (List.mem_of_getElem? (i := 6) rfl))) Via.refl e6 (S_NOT_EQUAL.ext (own_ext K6)) (g := (mkF m 13 #[.val (.int p1), .val (.int p2), .unset, .unset, .unset, .unset, .unset, .unset] [(.int (1 : Int32)), (.ref b3), (.ref b3)])) rfl (hb hby at_13)
  obtain ⟨cl_b3_16, Ar_b3, q_b3, S_b3, N_b3, H_b3, G_b3⟩ := V_b3_6
  have hin16 : ¬ ((1 : Int32) < 0 ∨ cl_b3_16.slots.size ≤ ((1 : Int32)).toNatClampNeg) := inb_of S_b3 ⟨by decide, by decide⟩
  have Sto16 : Sto Z h6 b3 (.ref w7) := Sto.ofV Ar_b3 q_b3 O3 (Ins.self (E_w7.keep K6))
  obtain ⟨T9, h9, X9, e9, W9, st9⟩ := stR X8 hx hZ e8 Ar_b3 (j := (1 : Int32)) hin16 rfl Sto16 (g := (mkF m 16 #[.val (.int p1), .val (.int p2), .unset, .unset, .unset, .unset, .unset, .unset] [(.ref w7), (.int (1 : Int32)), (.ref b3), (.ref b3)])) rfl rfl (hb hby at_16)
  have V_b3_9 := Arv.set Ar_b3 q_b3 S_b3 N_b3 H_b3 G_b3 rfl W9 1 rfl (Nat.le_of_ble_eq_true rfl)
  have K9 : Keep h0 h9 [] := K6.wr W9 (Or.inr sz_b3)
  have N9 := Fr.snoc X9 N6 g_b3
  obtain ⟨T11, X11, e11, st11⟩ := getS2 X9 hx hZ hown (host := "") (Or.inl (hw _ (List.mem_of_getElem? (i := 8) rfl))) Via.refl e9 (S_LESS.ext (own_ext K9)) (g := (mkF m 19 #[.val (.int p1), .val (.int p2), .unset, .unset, .unset, .unset, .unset, .unset] [(.int (2 : Int32)), (.ref b3), (.ref b3)])) rfl (hb hby at_19)
  obtain ⟨cl_b3_22, Ar_b3, q_b3, S_b3, N_b3, H_b3, G_b3⟩ := V_b3_9
  have hin22 : ¬ ((2 : Int32) < 0 ∨ cl_b3_22.slots.size ≤ ((2 : Int32)).toNatClampNeg) := inb_of S_b3 ⟨by decide, by decide⟩
  have Sto22 : Sto Z h9 b3 (.ref w10) := Sto.ofV Ar_b3 q_b3 O3 (Ins.self (E_w10.keep K9))
  obtain ⟨T12, h12, X12, e12, W12, st12⟩ := stR X11 hx hZ e11 Ar_b3 (j := (2 : Int32)) hin22 rfl Sto22 (g := (mkF m 22 #[.val (.int p1), .val (.int p2), .unset, .unset, .unset, .unset, .unset, .unset] [(.ref w10), (.int (2 : Int32)), (.ref b3), (.ref b3)])) rfl rfl (hb hby at_22)
  have V_b3_12 := Arv.set Ar_b3 q_b3 S_b3 N_b3 H_b3 G_b3 rfl W12 2 rfl (Nat.le_of_ble_eq_true rfl)
  have K12 : Keep h0 h12 [] := K9.wr W12 (Or.inr sz_b3)
  have N12 := Fr.snoc X12 N9 g_b3
  obtain ⟨T14, X14, e14, st14⟩ := getS2 X12 hx hZ hown (host := "") (Or.inl (hw _ (List.mem_of_getElem? (i := 10) rfl))) Via.refl e12 (S_LESS_OR_EQUAL.ext (own_ext K12)) (g := (mkF m 25 #[.val (.int p1), .val (.int p2), .unset, .unset, .unset, .unset, .unset, .unset] [(.int (3 : Int32)), (.ref b3), (.ref b3)])) rfl (hb hby at_25)
  obtain ⟨cl_b3_28, Ar_b3, q_b3, S_b3, N_b3, H_b3, G_b3⟩ := V_b3_12
  have hin28 : ¬ ((3 : Int32) < 0 ∨ cl_b3_28.slots.size ≤ ((3 : Int32)).toNatClampNeg) := inb_of S_b3 ⟨by decide, by decide⟩
  have Sto28 : Sto Z h12 b3 (.ref w13) := Sto.ofV Ar_b3 q_b3 O3 (Ins.self (E_w13.keep K12))
  obtain ⟨T15, h15, X15, e15, W15, st15⟩ := stR X14 hx hZ e14 Ar_b3 (j := (3 : Int32)) hin28 rfl Sto28 (g := (mkF m 28 #[.val (.int p1), .val (.int p2), .unset, .unset, .unset, .unset, .unset, .unset] [(.ref w13), (.int (3 : Int32)), (.ref b3), (.ref b3)])) rfl rfl (hb hby at_28)
  have V_b3_15 := Arv.set Ar_b3 q_b3 S_b3 N_b3 H_b3 G_b3 rfl W15 3 rfl (Nat.le_of_ble_eq_true rfl)
  have K15 : Keep h0 h15 [] := K12.wr W15 (Or.inr sz_b3)
  have N15 := Fr.snoc X15 N12 g_b3
  obtain ⟨T17, X17, e17, st17⟩ := getS2 X15 hx hZ hown (host := "") (Or.inl (hw _ (List.mem_of_getElem? (i := 12) rfl))) Via.refl e15 (S_GREATER.ext (own_ext K15)) (g := (mkF m 31 #[.val (.int p1), .val (.int p2), .unset, .unset, .unset, .unset, .unset, .unset] [(.int (4 : Int32)), (.ref b3), (.ref b3)])) rfl (hb hby at_31)
  obtain ⟨cl_b3_34, Ar_b3, q_b3, S_b3, N_b3, H_b3, G_b3⟩ := V_b3_15
  have hin34 : ¬ ((4 : Int32) < 0 ∨ cl_b3_34.slots.size ≤ ((4 : Int32)).toNatClampNeg) := inb_of S_b3 ⟨by decide, by decide⟩
  have Sto34 : Sto Z h15 b3 (.ref w16) := Sto.ofV Ar_b3 q_b3 O3 (Ins.self (E_w16.keep K15))
  obtain ⟨T18, h18, X18, e18, W18, st18⟩ := stR X17 hx hZ e17 Ar_b3 (j := (4 : Int32)) hin34 rfl Sto34 (g := (mkF m 34 #[.val (.int p1), .val (.int p2), .unset, .unset, .unset, .unset, .unset, .unset] [(.ref w16), (.int (4 : Int32)), (.ref b3), (.ref b3)])) rfl rfl (hb hby at_34)
  have V_b3_18 := Arv.set Ar_b3 q_b3 S_b3 N_b3 H_b3 G_b3 rfl W18 4 rfl (Nat.le_of_ble_eq_true rfl)
  have K18 : Keep h0 h18 [] := K15.wr W18 (Or.inr sz_b3)
  have N18 := Fr.snoc X18 N15 g_b3
  obtain ⟨T20, X20, e20, st20⟩ := getS2 X18 hx hZ hown (host := "") (Or.inl (hw _ (List.mem_of_getElem? (i := 14) rfl))) Via.refl e18 (S_GREATER_OR_EQUAL.ext (own_ext K18)) (g := (mkF m 37 #[.val (.int p1), .val (.int p2), .unset, .unset, .unset, .unset, .unset, .unset] [(.int (5 : Int32)), (.ref b3), (.ref b3)])) rfl (hb hby at_37)
  obtain ⟨cl_b3_40, Ar_b3, q_b3, S_b3, N_b3, H_b3, G_b3⟩ := V_b3_18
  have hin40 : ¬ ((5 : Int32) < 0 ∨ cl_b3_40.slots.size ≤ ((5 : Int32)).toNatClampNeg) := inb_of S_b3 ⟨by decide, by decide⟩
  have Sto40 : Sto Z h18 b3 (.ref w19) := Sto.ofV Ar_b3 q_b3 O3 (Ins.self (E_w19.keep K18))
  obtain ⟨T21, h21, X21, e21, W21, st21⟩ := stR X20 hx hZ e20 Ar_b3 (j := (5 : Int32)) hin40 rfl Sto40 (g := (mkF m 40 #[.val (.int p1), .val (.int p2), .unset, .unset, .unset, .unset, .unset, .unset] [(.ref w19), (.int (5 : Int32)), (.ref b3), (.ref b3)])) rfl rfl (hb hby at_40)
  have V_b3_21 := Arv.set Ar_b3 q_b3 S_b3 N_b3 H_b3 G_b3 rfl W21 5 rfl (Nat.le_of_ble_eq_true rfl)
  have K21 : Keep h0 h21 [] := K18.wr W21 (Or.inr sz_b3)
  have N21 := Fr.snoc X21 N18 g_b3
  obtain ⟨T22, h22, k22, X22, e22, E22, A22, st22⟩ := newP X21 hx hZ (hw _ (List.mem_of_getElem? (i := 16) rfl)) e21 (g := (mkF m 44 #[.val (.int p1), .val (.int p2), .val (.ref b3), .unset, .unset, .unset, .unset, .unset] [(.int (6 : Int32))])) rfl (hb hby at_44) rfl (by decide) (cap := 6) (by decide) (by decide) (by decide) (by decide)
  obtain ⟨b22, g22⟩ : ∃ z, z = h21.size := ⟨_, rfl⟩      -- the fresh array's address
  rw [← g22] at A22 st22
  have V_b22 : Arv Z h22 b22 k22 .int (6 : Int32) [(.int (0 : Int32)), (.int (0 : Int32)), (.int (0 : Int32)), (.int (0 : Int32)), (.int (0 : Int32)), (.int (0 : Int32))] (.int (0 : Int32)) := (Arv.new A22 (by decide)).pad (pad_rep [] (.int (0 : Int32)) 6)
  have g_b22 : n0 ≤ b22 := Nat.le_trans (Nat.le_trans (Nat.le_trans (Nat.le_trans (Nat.le_trans (Nat.le_trans (Nat.le_trans (Nat.le_trans Z0 E3.1) (Keep.of_wr W6).1) (Keep.of_wr W9).1) (Keep.of_wr W12).1) (Keep.of_wr W15).1) (Keep.of_wr W18).1) (Keep.of_wr W21).1) (Nat.le_of_eq g22.symm)
  have sz_b22 : h0.size ≤ b22 := (Nat.le_trans K21.1 (Nat.le_of_eq g22.symm))
  have K22 : Keep h0 h22 [] := K21.ext E22
  obtain ⟨cl_b22_49, Ar_b22, q_b22, S_b22, N_b22, H_b22, G_b22⟩ := V_b22      -- open the array's fact as it stands now (its cell, kind, length, elements)
  have hin49 : ¬ ((0 : Int32) < 0 ∨ cl_b22_49.slots.size ≤ ((0 : Int32)).toNatClampNeg) := inb_of S_b22 ⟨by decide, by decide⟩
  obtain ⟨T23, h23, X23, e23, W23, st23⟩ := stI X22 hx hZ e22 Ar_b22 (j := (0 : Int32)) hin49 (g := (mkF m 49 #[.val (.int p1), .val (.int p2), .val (.ref b3), .unset, .unset, .unset, .unset, .unset] [(.int (2 : Int32)), (.int (0 : Int32)), (.ref b22), (.ref b22)])) rfl rfl (hb hby at_49)
  have V_b22_23 := Arv.set Ar_b22 q_b22 S_b22 N_b22 H_b22 G_b22 rfl W23 0 rfl (Nat.le_of_ble_eq_true rfl)      -- the array as it stands now (the place must lie among its first values: Arv.pad with pad_rep lengthens them)
  have K23 : Keep h0 h23 [] := K22.wr W23 (Or.inr sz_b22)
  have N23 := Fr.snoc X23 N21 g_b22
  obtain ⟨cl_b22_53, Ar_b22, q_b22, S_b22, N_b22, H_b22, G_b22⟩ := V_b22_23      -- open the array's fact as it stands now (its cell, kind, length, elements)
  have hin53 : ¬ ((1 : Int32) < 0 ∨ cl_b22_53.slots.size ≤ ((1 : Int32)).toNatClampNeg) := inb_of S_b22 ⟨by decide, by decide⟩
  obtain ⟨T24, h24, X24, e24, W24, st24⟩ := stI X23 hx hZ e23 Ar_b22 (j := (1 : Int32)) hin53 (g := (mkF m 53 #[.val (.int p1), .val (.int p2), .val (.ref b3), .unset, .unset, .unset, .unset, .unset] [(.int (5 : Int32)), (.int (1 : Int32)), (.ref b22), (.ref b22)])) rfl rfl (hb hby at_53)
  have V_b22_24 := Arv.set Ar_b22 q_b22 S_b22 N_b22 H_b22 G_b22 rfl W24 1 rfl (Nat.le_of_ble_eq_true rfl)      -- the array as it stands now (the place must lie among its first values: Arv.pad with pad_rep lengthens them)
  have K24 : Keep h0 h24 [] := K23.wr W24 (Or.inr sz_b22)
  have N24 := Fr.snoc X24 N23 g_b22
  obtain ⟨cl_b22_57, Ar_b22, q_b22, S_b22, N_b22, H_b22, G_b22⟩ := V_b22_24      -- open the array's fact as it stands now (its cell, kind, length, elements)
  have hin57 : ¬ ((2 : Int32) < 0 ∨ cl_b22_57.slots.size ≤ ((2 : Int32)).toNatClampNeg) := inb_of S_b22 ⟨by decide, by decide⟩
  obtain ⟨T25, h25, X25, e25, W25, st25⟩ := stI X24 hx hZ e24 Ar_b22 (j := (2 : Int32)) hin57 (g := (mkF m 57 #[.val (.int p1), .val (.int p2), .val (.ref b3), .unset, .unset, .unset, .unset, .unset] [(.int (1 : Int32)), (.int (2 : Int32)), (.ref b22), (.ref b22)])) rfl rfl (hb hby at_57)
  have V_b22_25 := Arv.set Ar_b22 q_b22 S_b22 N_b22 H_b22 G_b22 rfl W25 2 rfl (Nat.le_of_ble_eq_true rfl)      -- the array as it stands now (the place must lie among its first values: Arv.pad with pad_rep lengthens them)
  have K25 : Keep h0 h25 [] := K24.wr W25 (Or.inr sz_b22)
  have N25 := Fr.snoc X25 N24 g_b22
  obtain ⟨cl_b22_61, Ar_b22, q_b22, S_b22, N_b22, H_b22, G_b22⟩ := V_b22_25      -- open the array's fact as it stands now (its cell, kind, length, elements)
  have hin61 : ¬ ((3 : Int32) < 0 ∨ cl_b22_61.slots.size ≤ ((3 : Int32)).toNatClampNeg) := inb_of S_b22 ⟨by decide, by decide⟩
  obtain ⟨T26, h26, X26, e26, W26, st26⟩ := stI X25 hx hZ e25 Ar_b22 (j := (3 : Int32)) hin61 (g := (mkF m 61 #[.val (.int p1), .val (.int p2), .val (.ref b3), .unset, .unset, .unset, .unset, .unset] [(.int (3 : Int32)), (.int (3 : Int32)), (.ref b22), (.ref b22)])) rfl rfl (hb hby at_61)
  have V_b22_26 := Arv.set Ar_b22 q_b22 S_b22 N_b22 H_b22 G_b22 rfl W26 3 rfl (Nat.le_of_ble_eq_true rfl)      -- the array as it stands now (the place must lie among its first values: Arv.pad with pad_rep lengthens them)
  have K26 : Keep h0 h26 [] := K25.wr W26 (Or.inr sz_b22)
  have N26 := Fr.snoc X26 N25 g_b22
  obtain ⟨cl_b22_65, Ar_b22, q_b22, S_b22, N_b22, H_b22, G_b22⟩ := V_b22_26      -- open the array's fact as it stands now (its cell, kind, length, elements)
  have hin65 : ¬ ((4 : Int32) < 0 ∨ cl_b22_65.slots.size ≤ ((4 : Int32)).toNatClampNeg) := inb_of S_b22 ⟨by decide, by decide⟩
  obtain ⟨T27, h27, X27, e27, W27, st27⟩ := stI X26 hx hZ e26 Ar_b22 (j := (4 : Int32)) hin65 (g := (mkF m 65 #[.val (.int p1), .val (.int p2), .val (.ref b3), .unset, .unset, .unset, .unset, .unset] [(.int (4 : Int32)), (.int (4 : Int32)), (.ref b22), (.ref b22)])) rfl rfl (hb hby at_65)
  have V_b22_27 := Arv.set Ar_b22 q_b22 S_b22 N_b22 H_b22 G_b22 rfl W27 4 rfl (Nat.le_of_ble_eq_true rfl)      -- the array as it stands now (the place must lie among its first values: Arv.pad with pad_rep lengthens them)
  have K27 : Keep h0 h27 [] := K26.wr W27 (Or.inr sz_b22)
  have N27 := Fr.snoc X27 N26 g_b22
  obtain ⟨cl_b22_70, Ar_b22, q_b22, S_b22, N_b22, H_b22, G_b22⟩ := V_b22_27      -- open the array's fact as it stands now (its cell, kind, length, elements)
  have hin70 : ¬ ((5 : Int32) < 0 ∨ cl_b22_70.slots.size ≤ ((5 : Int32)).toNatClampNeg) := inb_of S_b22 ⟨by decide, by decide⟩
  obtain ⟨T28, h28, X28, e28, W28, st28⟩ := stI X27 hx hZ e27 Ar_b22 (j := (5 : Int32)) hin70 (g := (mkF m 70 #[.val (.int p1), .val (.int p2), .val (.ref b3), .unset, .unset, .unset, .unset, .unset] [(.int (6 : Int32)), (.int (5 : Int32)), (.ref b22), (.ref b22)])) rfl rfl (hb hby at_70)
  have V_b22_28 := Arv.set Ar_b22 q_b22 S_b22 N_b22 H_b22 G_b22 rfl W28 5 rfl (Nat.le_of_ble_eq_true rfl)      -- the array as it stands now (the place must lie among its first values: Arv.pad with pad_rep lengthens them)
  have K28 : Keep h0 h28 [] := K27.wr W28 (Or.inr sz_b22)
  have N28 := Fr.snoc X28 N27 g_b22
  obtain ⟨cl_b3_84, Ar_b3_84, -, S_b3_84, -, H_b3_84, -⟩ := (((((((V_b3_21.ext E22).other W23 (Nat.ne_of_lt (Nat.lt_of_lt_of_le V_b3_21.lt (Nat.le_of_eq g22.symm)))).other W24 (Nat.ne_of_lt (Nat.lt_of_lt_of_le V_b3_21.lt (Nat.le_of_eq g22.symm)))).other W25 (Nat.ne_of_lt (Nat.lt_of_lt_of_le V_b3_21.lt (Nat.le_of_eq g22.symm)))).other W26 (Nat.ne_of_lt (Nat.lt_of_lt_of_le V_b3_21.lt (Nat.le_of_eq g22.symm)))).other W27 (Nat.ne_of_lt (Nat.lt_of_lt_of_le V_b3_21.lt (Nat.le_of_eq g22.symm)))).other W28 (Nat.ne_of_lt (Nat.lt_of_lt_of_le V_b3_21.lt (Nat.le_of_eq g22.symm))))
  have hin84 : ¬ (((p1 &&& (2147483647 : Int32)) % (6 : Int32)) < 0 ∨ cl_b3_84.slots.size ≤ (((p1 &&& (2147483647 : Int32)) % (6 : Int32))).toNatClampNeg) := inb_of S_b3_84 hlo84
  have hat84 : cl_b3_84.slots[(((p1 &&& (2147483647 : Int32)) % (6 : Int32))).toNatClampNeg]? = some (.ref w29) := (H_b3_84 _ (Nat.lt_of_not_le fun q => hin84 (Or.inr q))).trans (congrArg some hel84)
  obtain ⟨cl_b22_113, Ar_b22_113, -, S_b22_113, -, H_b22_113, -⟩ := V_b22_28
  have hin113 : ¬ (((p1 &&& (2147483647 : Int32)) % (6 : Int32)) < 0 ∨ cl_b22_113.slots.size ≤ (((p1 &&& (2147483647 : Int32)) % (6 : Int32))).toNatClampNeg) := inb_of S_b22_113 hlo113
  have hat113 : cl_b22_113.slots[(((p1 &&& (2147483647 : Int32)) % (6 : Int32))).toNatClampNeg]? = some (.int w30) := (H_b22_113 _ (Nat.lt_of_not_le fun q => hin113 (Or.inr q))).trans (congrArg some hel113)
  obtain ⟨cq31, kq31, q31a, q31b, q31c⟩ := isOf hZ e28 ((((((((((((((E_w29.ext E3).wr W6).wr W9).wr W12).wr W15).wr W18).wr W21).ext E22).wr W23).wr W24).wr W25).wr W26).wr W27).wr W28)
  obtain ⟨_, _, ⟨T31, L31, k31, n31⟩, -, X31, ⟨Lc31, hQ31, l31, y31, z31⟩, st31⟩ := X28.virtualBack hx (y := (⟨"com/example/quantorum/quantorum/algebra/Relation", "holds", "(I)Z"⟩ : MethodName)) (z := (⟨"com/example/quantorum/quantorum/algebra/Relation", "holds", "(I)Z"⟩ : MethodName)) hown (mvT hZ (hw _ (List.mem_of_getElem? (i := 18) rfl))) (mvT hZ (hw _ (List.mem_of_getElem? (i := 19) rfl))) (notFace_of_selects (args := #[]) (mvT hZ (hw _ (List.mem_of_getElem? (i := 21) rfl)))) (mvT hZ (hw _ (List.mem_of_getElem? (i := 21) rfl))) (mvT hZ (hw _ (List.mem_of_getElem? (i := 20) rfl))) (by decide) (backOf (W := 0) (hcall h28 K28 (Nat.le_trans Z0 K28.1)) hZ (hw _ (List.mem_of_getElem? (i := 22) rfl)) (hw _ (List.mem_of_getElem? (i := 3) rfl)) (by decide) (by decide)) q31a q31c (g := (mkF m 132 #[.val (.int p1), .val (.int p2), .val (.ref b3), .val (.ref b22), .val (.int ((p1 &&& (2147483647 : Int32)) % (6 : Int32))), .val (.ref w29), .val (.int (0 : Int32)), .val (.int (0 : Int32))] [(.int p2), (.ref w29)])) rfl (by rw [hml]; rfl) (Steps.refl _) (argsL := [(.int p2)]) (rest := []) (lenOf pd_0_0 rfl) rfl (by show 2 * 0 + _ ≤ _; exact Nat.le_of_eq rfl) (hb hby at_132) (fun _ _ => ⟨rfl, e28, (by decide : 2 + 0 ≤ _), (by decide : 12 + 0 ≤ _)⟩)
  dsimp only [Pt.U, Pt.locs, Pt.cells, Pt.slots] at X31 l31 y31 z31 st31 hQ31
  subst l31 y31 z31
  obtain ⟨rfl, N31q, e31⟩ := hQ31
  have N31 := Fr.app N28 N31q
  obtain ⟨fs, hr, hrun, hended, hW, hsame⟩ := X31.leave (v := some (.int (1 : Int32))) (fun h => by rw [Bd.returns] at h; cases h)
  refine ⟨_, _, pre0 _ ?_, hrun, hended, _, _, rfl, ?_, ⟨_, rfl⟩, hW, hsame.mono (by decide) (by decide)⟩
  · show Steps p.tables e below (s₁.setTop (mkF m 0 #[.val (.int p1), .val (.int p2), .unset, .unset, .unset, .unset, .unset, .unset] [])) _
    refine XS.bipush X0.here hx rfl (hb hby at_0) ?_
    show Steps p.tables e below (s₁.setTop (mkF m 2 #[.val (.int p1), .val (.int p2), .unset, .unset, .unset, .unset, .unset, .unset] [(.int (6 : Int32))])) _
    refine st3 _ ?_
    show Steps p.tables e below (T3.setTop (mkF m 5 #[.val (.int p1), .val (.int p2), .unset, .unset, .unset, .unset, .unset, .unset] [(.ref b3)])) _
    refine XS.dup X3.here hx rfl (hb hby at_5) rfl rfl ?_
    show Steps p.tables e below (T3.setTop (mkF m 6 #[.val (.int p1), .val (.int p2), .unset, .unset, .unset, .unset, .unset, .unset] [(.ref b3), (.ref b3)])) _
    refine XS.iconst X3.here hx rfl (hb hby at_6) ?_
    show Steps p.tables e below (T3.setTop (mkF m 7 #[.val (.int p1), .val (.int p2), .unset, .unset, .unset, .unset, .unset, .unset] [(.int (0 : Int32)), (.ref b3), (.ref b3)])) _
    refine st5 _ ?_
    show Steps p.tables e below (T5.setTop (mkF m 10 #[.val (.int p1), .val (.int p2), .unset, .unset, .unset, .unset, .unset, .unset] [(.ref w4), (.int (0 : Int32)), (.ref b3), (.ref b3)])) _
    refine st6 _ ?_
    show Steps p.tables e below (T6.setTop (mkF m 11 #[.val (.int p1), .val (.int p2), .unset, .unset, .unset, .unset, .unset, .unset] [(.ref b3)])) _
    refine XS.dup X6.here hx rfl (hb hby at_11) rfl rfl ?_
    show Steps p.tables e below (T6.setTop (mkF m 12 #[.val (.int p1), .val (.int p2), .unset, .unset, .unset, .unset, .unset, .unset] [(.ref b3), (.ref b3)])) _
    refine XS.iconst X6.here hx rfl (hb hby at_12) ?_
    show Steps p.tables e below (T6.setTop (mkF m 13 #[.val (.int p1), .val (.int p2), .unset, .unset, .unset, .unset, .unset, .unset] [(.int (1 : Int32)), (.ref b3), (.ref b3)])) _
    refine st8 _ ?_
    show Steps p.tables e below (T8.setTop (mkF m 16 #[.val (.int p1), .val (.int p2), .unset, .unset, .unset, .unset, .unset, .unset] [(.ref w7), (.int (1 : Int32)), (.ref b3), (.ref b3)])) _
    refine st9 _ ?_
    show Steps p.tables e below (T9.setTop (mkF m 17 #[.val (.int p1), .val (.int p2), .unset, .unset, .unset, .unset, .unset, .unset] [(.ref b3)])) _
    refine XS.dup X9.here hx rfl (hb hby at_17) rfl rfl ?_
    show Steps p.tables e below (T9.setTop (mkF m 18 #[.val (.int p1), .val (.int p2), .unset, .unset, .unset, .unset, .unset, .unset] [(.ref b3), (.ref b3)])) _
    refine XS.iconst X9.here hx rfl (hb hby at_18) ?_
    show Steps p.tables e below (T9.setTop (mkF m 19 #[.val (.int p1), .val (.int p2), .unset, .unset, .unset, .unset, .unset, .unset] [(.int (2 : Int32)), (.ref b3), (.ref b3)])) _
    refine st11 _ ?_
    show Steps p.tables e below (T11.setTop (mkF m 22 #[.val (.int p1), .val (.int p2), .unset, .unset, .unset, .unset, .unset, .unset] [(.ref w10), (.int (2 : Int32)), (.ref b3), (.ref b3)])) _
    refine st12 _ ?_
    show Steps p.tables e below (T12.setTop (mkF m 23 #[.val (.int p1), .val (.int p2), .unset, .unset, .unset, .unset, .unset, .unset] [(.ref b3)])) _
    refine XS.dup X12.here hx rfl (hb hby at_23) rfl rfl ?_
    show Steps p.tables e below (T12.setTop (mkF m 24 #[.val (.int p1), .val (.int p2), .unset, .unset, .unset, .unset, .unset, .unset] [(.ref b3), (.ref b3)])) _
    refine XS.iconst X12.here hx rfl (hb hby at_24) ?_
    show Steps p.tables e below (T12.setTop (mkF m 25 #[.val (.int p1), .val (.int p2), .unset, .unset, .unset, .unset, .unset, .unset] [(.int (3 : Int32)), (.ref b3), (.ref b3)])) _
    refine st14 _ ?_
    show Steps p.tables e below (T14.setTop (mkF m 28 #[.val (.int p1), .val (.int p2), .unset, .unset, .unset, .unset, .unset, .unset] [(.ref w13), (.int (3 : Int32)), (.ref b3), (.ref b3)])) _
    refine st15 _ ?_
    show Steps p.tables e below (T15.setTop (mkF m 29 #[.val (.int p1), .val (.int p2), .unset, .unset, .unset, .unset, .unset, .unset] [(.ref b3)])) _
    refine XS.dup X15.here hx rfl (hb hby at_29) rfl rfl ?_
    show Steps p.tables e below (T15.setTop (mkF m 30 #[.val (.int p1), .val (.int p2), .unset, .unset, .unset, .unset, .unset, .unset] [(.ref b3), (.ref b3)])) _
    refine XS.iconst X15.here hx rfl (hb hby at_30) ?_
    show Steps p.tables e below (T15.setTop (mkF m 31 #[.val (.int p1), .val (.int p2), .unset, .unset, .unset, .unset, .unset, .unset] [(.int (4 : Int32)), (.ref b3), (.ref b3)])) _
    refine st17 _ ?_
    show Steps p.tables e below (T17.setTop (mkF m 34 #[.val (.int p1), .val (.int p2), .unset, .unset, .unset, .unset, .unset, .unset] [(.ref w16), (.int (4 : Int32)), (.ref b3), (.ref b3)])) _
    refine st18 _ ?_
    show Steps p.tables e below (T18.setTop (mkF m 35 #[.val (.int p1), .val (.int p2), .unset, .unset, .unset, .unset, .unset, .unset] [(.ref b3)])) _
    refine XS.dup X18.here hx rfl (hb hby at_35) rfl rfl ?_
    show Steps p.tables e below (T18.setTop (mkF m 36 #[.val (.int p1), .val (.int p2), .unset, .unset, .unset, .unset, .unset, .unset] [(.ref b3), (.ref b3)])) _
    refine XS.iconst X18.here hx rfl (hb hby at_36) ?_
    show Steps p.tables e below (T18.setTop (mkF m 37 #[.val (.int p1), .val (.int p2), .unset, .unset, .unset, .unset, .unset, .unset] [(.int (5 : Int32)), (.ref b3), (.ref b3)])) _
    refine st20 _ ?_
    show Steps p.tables e below (T20.setTop (mkF m 40 #[.val (.int p1), .val (.int p2), .unset, .unset, .unset, .unset, .unset, .unset] [(.ref w19), (.int (5 : Int32)), (.ref b3), (.ref b3)])) _
    refine st21 _ ?_
    show Steps p.tables e below (T21.setTop (mkF m 41 #[.val (.int p1), .val (.int p2), .unset, .unset, .unset, .unset, .unset, .unset] [(.ref b3)])) _
    refine XS.astoreN X21.here hx rfl (hb hby at_41) rfl rfl (l' := #[.val (.int p1), .val (.int p2), .val (.ref b3), .unset, .unset, .unset, .unset, .unset]) rfl ?_
    show Steps p.tables e below (T21.setTop (mkF m 42 #[.val (.int p1), .val (.int p2), .val (.ref b3), .unset, .unset, .unset, .unset, .unset] [])) _
    refine XS.bipush X21.here hx rfl (hb hby at_42) ?_
    show Steps p.tables e below (T21.setTop (mkF m 44 #[.val (.int p1), .val (.int p2), .val (.ref b3), .unset, .unset, .unset, .unset, .unset] [(.int (6 : Int32))])) _
    refine st22 _ ?_
    show Steps p.tables e below (T22.setTop (mkF m 46 #[.val (.int p1), .val (.int p2), .val (.ref b3), .unset, .unset, .unset, .unset, .unset] [(.ref b22)])) _
    refine XS.dup X22.here hx rfl (hb hby at_46) rfl rfl ?_
    show Steps p.tables e below (T22.setTop (mkF m 47 #[.val (.int p1), .val (.int p2), .val (.ref b3), .unset, .unset, .unset, .unset, .unset] [(.ref b22), (.ref b22)])) _
    refine XS.iconst X22.here hx rfl (hb hby at_47) ?_
    show Steps p.tables e below (T22.setTop (mkF m 48 #[.val (.int p1), .val (.int p2), .val (.ref b3), .unset, .unset, .unset, .unset, .unset] [(.int (0 : Int32)), (.ref b22), (.ref b22)])) _
    refine XS.iconst X22.here hx rfl (hb hby at_48) ?_
    show Steps p.tables e below (T22.setTop (mkF m 49 #[.val (.int p1), .val (.int p2), .val (.ref b3), .unset, .unset, .unset, .unset, .unset] [(.int (2 : Int32)), (.int (0 : Int32)), (.ref b22), (.ref b22)])) _
    refine st23 _ ?_
    show Steps p.tables e below (T23.setTop (mkF m 50 #[.val (.int p1), .val (.int p2), .val (.ref b3), .unset, .unset, .unset, .unset, .unset] [(.ref b22)])) _
    refine XS.dup X23.here hx rfl (hb hby at_50) rfl rfl ?_
    show Steps p.tables e below (T23.setTop (mkF m 51 #[.val (.int p1), .val (.int p2), .val (.ref b3), .unset, .unset, .unset, .unset, .unset] [(.ref b22), (.ref b22)])) _
    refine XS.iconst X23.here hx rfl (hb hby at_51) ?_
    show Steps p.tables e below (T23.setTop (mkF m 52 #[.val (.int p1), .val (.int p2), .val (.ref b3), .unset, .unset, .unset, .unset, .unset] [(.int (1 : Int32)), (.ref b22), (.ref b22)])) _
    refine XS.iconst X23.here hx rfl (hb hby at_52) ?_
    show Steps p.tables e below (T23.setTop (mkF m 53 #[.val (.int p1), .val (.int p2), .val (.ref b3), .unset, .unset, .unset, .unset, .unset] [(.int (5 : Int32)), (.int (1 : Int32)), (.ref b22), (.ref b22)])) _
    refine st24 _ ?_
    show Steps p.tables e below (T24.setTop (mkF m 54 #[.val (.int p1), .val (.int p2), .val (.ref b3), .unset, .unset, .unset, .unset, .unset] [(.ref b22)])) _
    refine XS.dup X24.here hx rfl (hb hby at_54) rfl rfl ?_
    show Steps p.tables e below (T24.setTop (mkF m 55 #[.val (.int p1), .val (.int p2), .val (.ref b3), .unset, .unset, .unset, .unset, .unset] [(.ref b22), (.ref b22)])) _
    refine XS.iconst X24.here hx rfl (hb hby at_55) ?_
    show Steps p.tables e below (T24.setTop (mkF m 56 #[.val (.int p1), .val (.int p2), .val (.ref b3), .unset, .unset, .unset, .unset, .unset] [(.int (2 : Int32)), (.ref b22), (.ref b22)])) _
    refine XS.iconst X24.here hx rfl (hb hby at_56) ?_
    show Steps p.tables e below (T24.setTop (mkF m 57 #[.val (.int p1), .val (.int p2), .val (.ref b3), .unset, .unset, .unset, .unset, .unset] [(.int (1 : Int32)), (.int (2 : Int32)), (.ref b22), (.ref b22)])) _
    refine st25 _ ?_
    show Steps p.tables e below (T25.setTop (mkF m 58 #[.val (.int p1), .val (.int p2), .val (.ref b3), .unset, .unset, .unset, .unset, .unset] [(.ref b22)])) _
    refine XS.dup X25.here hx rfl (hb hby at_58) rfl rfl ?_
    show Steps p.tables e below (T25.setTop (mkF m 59 #[.val (.int p1), .val (.int p2), .val (.ref b3), .unset, .unset, .unset, .unset, .unset] [(.ref b22), (.ref b22)])) _
    refine XS.iconst X25.here hx rfl (hb hby at_59) ?_
    show Steps p.tables e below (T25.setTop (mkF m 60 #[.val (.int p1), .val (.int p2), .val (.ref b3), .unset, .unset, .unset, .unset, .unset] [(.int (3 : Int32)), (.ref b22), (.ref b22)])) _
    refine XS.iconst X25.here hx rfl (hb hby at_60) ?_
    show Steps p.tables e below (T25.setTop (mkF m 61 #[.val (.int p1), .val (.int p2), .val (.ref b3), .unset, .unset, .unset, .unset, .unset] [(.int (3 : Int32)), (.int (3 : Int32)), (.ref b22), (.ref b22)])) _
    refine st26 _ ?_
    show Steps p.tables e below (T26.setTop (mkF m 62 #[.val (.int p1), .val (.int p2), .val (.ref b3), .unset, .unset, .unset, .unset, .unset] [(.ref b22)])) _
    refine XS.dup X26.here hx rfl (hb hby at_62) rfl rfl ?_
    show Steps p.tables e below (T26.setTop (mkF m 63 #[.val (.int p1), .val (.int p2), .val (.ref b3), .unset, .unset, .unset, .unset, .unset] [(.ref b22), (.ref b22)])) _
    refine XS.iconst X26.here hx rfl (hb hby at_63) ?_
    show Steps p.tables e below (T26.setTop (mkF m 64 #[.val (.int p1), .val (.int p2), .val (.ref b3), .unset, .unset, .unset, .unset, .unset] [(.int (4 : Int32)), (.ref b22), (.ref b22)])) _
    refine XS.iconst X26.here hx rfl (hb hby at_64) ?_
    show Steps p.tables e below (T26.setTop (mkF m 65 #[.val (.int p1), .val (.int p2), .val (.ref b3), .unset, .unset, .unset, .unset, .unset] [(.int (4 : Int32)), (.int (4 : Int32)), (.ref b22), (.ref b22)])) _
    refine st27 _ ?_
    show Steps p.tables e below (T27.setTop (mkF m 66 #[.val (.int p1), .val (.int p2), .val (.ref b3), .unset, .unset, .unset, .unset, .unset] [(.ref b22)])) _
    refine XS.dup X27.here hx rfl (hb hby at_66) rfl rfl ?_
    show Steps p.tables e below (T27.setTop (mkF m 67 #[.val (.int p1), .val (.int p2), .val (.ref b3), .unset, .unset, .unset, .unset, .unset] [(.ref b22), (.ref b22)])) _
    refine XS.iconst X27.here hx rfl (hb hby at_67) ?_
    show Steps p.tables e below (T27.setTop (mkF m 68 #[.val (.int p1), .val (.int p2), .val (.ref b3), .unset, .unset, .unset, .unset, .unset] [(.int (5 : Int32)), (.ref b22), (.ref b22)])) _
    refine XS.bipush X27.here hx rfl (hb hby at_68) ?_
    show Steps p.tables e below (T27.setTop (mkF m 70 #[.val (.int p1), .val (.int p2), .val (.ref b3), .unset, .unset, .unset, .unset, .unset] [(.int (6 : Int32)), (.int (5 : Int32)), (.ref b22), (.ref b22)])) _
    refine st28 _ ?_
    show Steps p.tables e below (T28.setTop (mkF m 71 #[.val (.int p1), .val (.int p2), .val (.ref b3), .unset, .unset, .unset, .unset, .unset] [(.ref b22)])) _
    refine XS.astoreN X28.here hx rfl (hb hby at_71) rfl rfl (l' := #[.val (.int p1), .val (.int p2), .val (.ref b3), .val (.ref b22), .unset, .unset, .unset, .unset]) rfl ?_
    show Steps p.tables e below (T28.setTop (mkF m 72 #[.val (.int p1), .val (.int p2), .val (.ref b3), .val (.ref b22), .unset, .unset, .unset, .unset] [])) _
    refine XS.iloadN X28.here hx rfl (hb hby at_72) rfl ?_
    show Steps p.tables e below (T28.setTop (mkF m 73 #[.val (.int p1), .val (.int p2), .val (.ref b3), .val (.ref b22), .unset, .unset, .unset, .unset] [(.int p1)])) _
    refine X28.ldcInt hx hown (mvT hZ (hw _ (List.mem_of_getElem? (i := 17) rfl))) (g := (mkF m 73 #[.val (.int p1), .val (.int p2), .val (.ref b3), .val (.ref b22), .unset, .unset, .unset, .unset] [(.int p1)])) rfl (hb hby at_73) _ ?_
    show Steps p.tables e below (T28.setTop (mkF m 75 #[.val (.int p1), .val (.int p2), .val (.ref b3), .val (.ref b22), .unset, .unset, .unset, .unset] [(.int (2147483647 : Int32)), (.int p1)])) _
    refine XS.iand X28.here hx rfl (hb hby at_75) rfl ?_
    show Steps p.tables e below (T28.setTop (mkF m 76 #[.val (.int p1), .val (.int p2), .val (.ref b3), .val (.ref b22), .unset, .unset, .unset, .unset] [(.int (p1 &&& (2147483647 : Int32)))])) _
    refine XS.bipush X28.here hx rfl (hb hby at_76) ?_
    show Steps p.tables e below (T28.setTop (mkF m 78 #[.val (.int p1), .val (.int p2), .val (.ref b3), .val (.ref b22), .unset, .unset, .unset, .unset] [(.int (6 : Int32)), (.int (p1 &&& (2147483647 : Int32)))])) _
    refine iremM X28 hx rfl (hb hby at_78) rfl (by decide) ?_
    show Steps p.tables e below (T28.setTop (mkF m 79 #[.val (.int p1), .val (.int p2), .val (.ref b3), .val (.ref b22), .unset, .unset, .unset, .unset] [(.int ((p1 &&& (2147483647 : Int32)) % (6 : Int32)))])) _
    refine XS.istore X28.here hx rfl (hb hby at_79) rfl (l' := #[.val (.int p1), .val (.int p2), .val (.ref b3), .val (.ref b22), .val (.int ((p1 &&& (2147483647 : Int32)) % (6 : Int32))), .unset, .unset, .unset]) rfl ?_
    show Steps p.tables e below (T28.setTop (mkF m 81 #[.val (.int p1), .val (.int p2), .val (.ref b3), .val (.ref b22), .val (.int ((p1 &&& (2147483647 : Int32)) % (6 : Int32))), .unset, .unset, .unset] [])) _
    refine XS.aloadN X28.here hx rfl (hb hby at_81) rfl rfl ?_
    show Steps p.tables e below (T28.setTop (mkF m 82 #[.val (.int p1), .val (.int p2), .val (.ref b3), .val (.ref b22), .val (.int ((p1 &&& (2147483647 : Int32)) % (6 : Int32))), .unset, .unset, .unset] [(.ref b3)])) _
    refine XS.iload X28.here hx rfl (hb hby at_82) rfl ?_
    show Steps p.tables e below (T28.setTop (mkF m 84 #[.val (.int p1), .val (.int p2), .val (.ref b3), .val (.ref b22), .val (.int ((p1 &&& (2147483647 : Int32)) % (6 : Int32))), .unset, .unset, .unset] [(.int ((p1 &&& (2147483647 : Int32)) % (6 : Int32))), (.ref b3)])) _
    refine X28.aaload hx (j := ((p1 &&& (2147483647 : Int32)) % (6 : Int32))) (v := (.ref w29)) (by rw [e28]; exact Ar_b3_84.1) (State.isArrayOf_alike hZ.alike Ar_b3_84.2.1) rfl Ar_b3_84.2.2 hin84 hat84 (g := (mkF m 84 #[.val (.int p1), .val (.int p2), .val (.ref b3), .val (.ref b22), .val (.int ((p1 &&& (2147483647 : Int32)) % (6 : Int32))), .unset, .unset, .unset] [(.int ((p1 &&& (2147483647 : Int32)) % (6 : Int32))), (.ref b3)])) rfl rfl (hb hby at_84) _ ?_
    show Steps p.tables e below (T28.setTop (mkF m 85 #[.val (.int p1), .val (.int p2), .val (.ref b3), .val (.ref b22), .val (.int ((p1 &&& (2147483647 : Int32)) % (6 : Int32))), .unset, .unset, .unset] [(.ref w29)])) _
    refine XS.astore X28.here hx rfl (hb hby at_85) rfl rfl (l' := #[.val (.int p1), .val (.int p2), .val (.ref b3), .val (.ref b22), .val (.int ((p1 &&& (2147483647 : Int32)) % (6 : Int32))), .val (.ref w29), .unset, .unset]) rfl ?_
    show Steps p.tables e below (T28.setTop (mkF m 87 #[.val (.int p1), .val (.int p2), .val (.ref b3), .val (.ref b22), .val (.int ((p1 &&& (2147483647 : Int32)) % (6 : Int32))), .val (.ref w29), .unset, .unset] [])) _
    refine XS.iloadN X28.here hx rfl (hb hby at_87) rfl ?_
    show Steps p.tables e below (T28.setTop (mkF m 88 #[.val (.int p1), .val (.int p2), .val (.ref b3), .val (.ref b22), .val (.int ((p1 &&& (2147483647 : Int32)) % (6 : Int32))), .val (.ref w29), .unset, .unset] [(.int p2)])) _
    refine XS.ifNo X28.here hx rfl (hb hby at_88) rfl ((if0 _ _).trans (tlt hc88).2.1) ?_
    show Steps p.tables e below (T28.setTop (mkF m 91 #[.val (.int p1), .val (.int p2), .val (.ref b3), .val (.ref b22), .val (.int ((p1 &&& (2147483647 : Int32)) % (6 : Int32))), .val (.ref w29), .unset, .unset] [])) _
    refine XS.iconst X28.here hx rfl (hb hby at_91) ?_
    show Steps p.tables e below (T28.setTop (mkF m 92 #[.val (.int p1), .val (.int p2), .val (.ref b3), .val (.ref b22), .val (.int ((p1 &&& (2147483647 : Int32)) % (6 : Int32))), .val (.ref w29), .unset, .unset] [(.int (0 : Int32))])) _
    refine XS.istore X28.here hx rfl (hb hby at_92) rfl (l' := #[.val (.int p1), .val (.int p2), .val (.ref b3), .val (.ref b22), .val (.int ((p1 &&& (2147483647 : Int32)) % (6 : Int32))), .val (.ref w29), .val (.int (0 : Int32)), .unset]) rfl ?_
    show Steps p.tables e below (T28.setTop (mkF m 94 #[.val (.int p1), .val (.int p2), .val (.ref b3), .val (.ref b22), .val (.int ((p1 &&& (2147483647 : Int32)) % (6 : Int32))), .val (.ref w29), .val (.int (0 : Int32)), .unset] [])) _
    refine XS.goto X28.here hx rfl (pc0 := 94) (pc' := 110) rfl (hb hby at_94) (by decide) (by decide) ?_
    show Steps p.tables e below (T28.setTop (mkF m 110 #[.val (.int p1), .val (.int p2), .val (.ref b3), .val (.ref b22), .val (.int ((p1 &&& (2147483647 : Int32)) % (6 : Int32))), .val (.ref w29), .val (.int (0 : Int32)), .unset] [])) _
    refine XS.aloadN X28.here hx rfl (hb hby at_110) rfl rfl ?_
    show Steps p.tables e below (T28.setTop (mkF m 111 #[.val (.int p1), .val (.int p2), .val (.ref b3), .val (.ref b22), .val (.int ((p1 &&& (2147483647 : Int32)) % (6 : Int32))), .val (.ref w29), .val (.int (0 : Int32)), .unset] [(.ref b22)])) _
    refine XS.iload X28.here hx rfl (hb hby at_111) rfl ?_
    show Steps p.tables e below (T28.setTop (mkF m 113 #[.val (.int p1), .val (.int p2), .val (.ref b3), .val (.ref b22), .val (.int ((p1 &&& (2147483647 : Int32)) % (6 : Int32))), .val (.ref w29), .val (.int (0 : Int32)), .unset] [(.int ((p1 &&& (2147483647 : Int32)) % (6 : Int32))), (.ref b22)])) _
    refine X28.iaload hx (j := ((p1 &&& (2147483647 : Int32)) % (6 : Int32))) (v := (.int w30)) (by rw [e28]; exact Ar_b22_113.1) (State.isArrayOf_alike hZ.alike Ar_b22_113.2.1) Ar_b22_113.2.2 hin113 hat113 (g := (mkF m 113 #[.val (.int p1), .val (.int p2), .val (.ref b3), .val (.ref b22), .val (.int ((p1 &&& (2147483647 : Int32)) % (6 : Int32))), .val (.ref w29), .val (.int (0 : Int32)), .unset] [(.int ((p1 &&& (2147483647 : Int32)) % (6 : Int32))), (.ref b22)])) rfl rfl (hb hby at_113) _ ?_
    show Steps p.tables e below (T28.setTop (mkF m 114 #[.val (.int p1), .val (.int p2), .val (.ref b3), .val (.ref b22), .val (.int ((p1 &&& (2147483647 : Int32)) % (6 : Int32))), .val (.ref w29), .val (.int (0 : Int32)), .unset] [(.int w30)])) _
    refine XS.iload X28.here hx rfl (hb hby at_114) rfl ?_
    show Steps p.tables e below (T28.setTop (mkF m 116 #[.val (.int p1), .val (.int p2), .val (.ref b3), .val (.ref b22), .val (.int ((p1 &&& (2147483647 : Int32)) % (6 : Int32))), .val (.ref w29), .val (.int (0 : Int32)), .unset] [(.int (0 : Int32)), (.int w30)])) _
    refine XS.ishr X28.here hx rfl (hb hby at_116) rfl ?_
    show Steps p.tables e below (T28.setTop (mkF m 117 #[.val (.int p1), .val (.int p2), .val (.ref b3), .val (.ref b22), .val (.int ((p1 &&& (2147483647 : Int32)) % (6 : Int32))), .val (.ref w29), .val (.int (0 : Int32)), .unset] [(.int (w30 >>> ((0 : Int32) &&& 31)))])) _
    refine XS.iconst X28.here hx rfl (hb hby at_117) ?_
    show Steps p.tables e below (T28.setTop (mkF m 118 #[.val (.int p1), .val (.int p2), .val (.ref b3), .val (.ref b22), .val (.int ((p1 &&& (2147483647 : Int32)) % (6 : Int32))), .val (.ref w29), .val (.int (0 : Int32)), .unset] [(.int (1 : Int32)), (.int (w30 >>> ((0 : Int32) &&& 31)))])) _
    refine XS.iand X28.here hx rfl (hb hby at_118) rfl ?_
    show Steps p.tables e below (T28.setTop (mkF m 119 #[.val (.int p1), .val (.int p2), .val (.ref b3), .val (.ref b22), .val (.int ((p1 &&& (2147483647 : Int32)) % (6 : Int32))), .val (.ref w29), .val (.int (0 : Int32)), .unset] [(.int ((w30 >>> ((0 : Int32) &&& 31)) &&& (1 : Int32)))])) _
    refine XS.ifYes X28.here hx rfl (pc0 := 119) (pc' := 126) rfl (hb hby at_119) rfl ((if0 _ _).trans (teq hc119).1) (by decide) (by decide) ?_
    show Steps p.tables e below (T28.setTop (mkF m 126 #[.val (.int p1), .val (.int p2), .val (.ref b3), .val (.ref b22), .val (.int ((p1 &&& (2147483647 : Int32)) % (6 : Int32))), .val (.ref w29), .val (.int (0 : Int32)), .unset] [])) _
    refine XS.iconst X28.here hx rfl (hb hby at_126) ?_
    show Steps p.tables e below (T28.setTop (mkF m 127 #[.val (.int p1), .val (.int p2), .val (.ref b3), .val (.ref b22), .val (.int ((p1 &&& (2147483647 : Int32)) % (6 : Int32))), .val (.ref w29), .val (.int (0 : Int32)), .unset] [(.int (0 : Int32))])) _
    refine XS.istore X28.here hx rfl (hb hby at_127) rfl (l' := #[.val (.int p1), .val (.int p2), .val (.ref b3), .val (.ref b22), .val (.int ((p1 &&& (2147483647 : Int32)) % (6 : Int32))), .val (.ref w29), .val (.int (0 : Int32)), .val (.int (0 : Int32))]) rfl ?_
    show Steps p.tables e below (T28.setTop (mkF m 129 #[.val (.int p1), .val (.int p2), .val (.ref b3), .val (.ref b22), .val (.int ((p1 &&& (2147483647 : Int32)) % (6 : Int32))), .val (.ref w29), .val (.int (0 : Int32)), .val (.int (0 : Int32))] [])) _
    refine XS.aload X28.here hx rfl (hb hby at_129) rfl rfl ?_
    show Steps p.tables e below (T28.setTop (mkF m 131 #[.val (.int p1), .val (.int p2), .val (.ref b3), .val (.ref b22), .val (.int ((p1 &&& (2147483647 : Int32)) % (6 : Int32))), .val (.ref w29), .val (.int (0 : Int32)), .val (.int (0 : Int32))] [(.ref w29)])) _
    refine XS.iloadN X28.here hx rfl (hb hby at_131) rfl ?_
    show Steps p.tables e below (T28.setTop (mkF m 132 #[.val (.int p1), .val (.int p2), .val (.ref b3), .val (.ref b22), .val (.int ((p1 &&& (2147483647 : Int32)) % (6 : Int32))), .val (.ref w29), .val (.int (0 : Int32)), .val (.int (0 : Int32))] [(.int p2), (.ref w29)])) _
    refine st31.trans ?_
    show Steps p.tables e below (T31.setTop (mkF m 135 #[.val (.int p1), .val (.int p2), .val (.ref b3), .val (.ref b22), .val (.int ((p1 &&& (2147483647 : Int32)) % (6 : Int32))), .val (.ref w29), .val (.int (0 : Int32)), .val (.int (0 : Int32))] [(.int (0 : Int32))])) _
    refine XS.iload X31.here hx rfl (hb hby at_135) rfl ?_
    show Steps p.tables e below (T31.setTop (mkF m 137 #[.val (.int p1), .val (.int p2), .val (.ref b3), .val (.ref b22), .val (.int ((p1 &&& (2147483647 : Int32)) % (6 : Int32))), .val (.ref w29), .val (.int (0 : Int32)), .val (.int (0 : Int32))] [(.int (0 : Int32)), (.int (0 : Int32))])) _
    refine XS.icmpNo X31.here hx rfl (hb hby at_137) rfl (teq (rfl : (0 : Int32) = (0 : Int32))).2 ?_
    show Steps p.tables e below (T31.setTop (mkF m 140 #[.val (.int p1), .val (.int p2), .val (.ref b3), .val (.ref b22), .val (.int ((p1 &&& (2147483647 : Int32)) % (6 : Int32))), .val (.ref w29), .val (.int (0 : Int32)), .val (.int (0 : Int32))] [])) _
    refine XS.iconst X31.here hx rfl (hb hby at_140) ?_
    show Steps p.tables e below (T31.setTop (mkF m 141 #[.val (.int p1), .val (.int p2), .val (.ref b3), .val (.ref b22), .val (.int ((p1 &&& (2147483647 : Int32)) % (6 : Int32))), .val (.ref w29), .val (.int (0 : Int32)), .val (.int (0 : Int32))] [(.int (1 : Int32))])) _
    refine XS.goto X31.here hx rfl (pc0 := 141) (pc' := 145) rfl (hb hby at_141) (by decide) (by decide) ?_
    show Steps p.tables e below (T31.setTop (mkF m 145 #[.val (.int p1), .val (.int p2), .val (.ref b3), .val (.ref b22), .val (.int ((p1 &&& (2147483647 : Int32)) % (6 : Int32))), .val (.ref w29), .val (.int (0 : Int32)), .val (.int (0 : Int32))] [(.int (1 : Int32))])) _
    exact retN X31 hx (t := .boolean) Bd.returns (by simp) (hb hby at_145) hr
  · show Q0 n0 _ _
    exact ⟨rfl, N31⟩
set_option maxRecDepth 65536 in
set_option maxHeartbeats 40000000 in
theorem rm0_01 (l : Launch) (Z : State) (a0 : Array Value) (hw : ∀ d ∈ tables_1, d.before a0 Z = true) (ws : List Jvm.Cond) (p1 : Int32) (p2 : Int32) (w4 : Addr) (w7 : Addr) (w10 : Addr) (w13 : Addr) (w16 : Addr) (w19 : Addr) (w29 : Addr) (w30 : Int32) (h0 : Heap) (n0 : Nat) (Z0 : n0 ≤ h0.size) (S_EQUAL : Sta Z h0 "com/example/quantorum/quantorum/algebra/Relation" "EQUAL" "Lcom/example/quantorum/quantorum/algebra/Relation;" (.ref w4)) (E_w4 : Exa Z h0 w4 "com/example/quantorum/quantorum/algebra/Relation") (S_NOT_EQUAL : Sta Z h0 "com/example/quantorum/quantorum/algebra/Relation" "NOT_EQUAL" "Lcom/example/quantorum/quantorum/algebra/Relation;" (.ref w7)) (E_w7 : Exa Z h0 w7 "com/example/quantorum/quantorum/algebra/Relation") (S_LESS : Sta Z h0 "com/example/quantorum/quantorum/algebra/Relation" "LESS" "Lcom/example/quantorum/quantorum/algebra/Relation;" (.ref w10)) (E_w10 : Exa Z h0 w10 "com/example/quantorum/quantorum/algebra/Relation") (S_LESS_OR_EQUAL : Sta Z h0 "com/example/quantorum/quantorum/algebra/Relation" "LESS_OR_EQUAL" "Lcom/example/quantorum/quantorum/algebra/Relation;" (.ref w13)) (E_w13 : Exa Z h0 w13 "com/example/quantorum/quantorum/algebra/Relation") (S_GREATER : Sta Z h0 "com/example/quantorum/quantorum/algebra/Relation" "GREATER" "Lcom/example/quantorum/quantorum/algebra/Relation;" (.ref w16)) (E_w16 : Exa Z h0 w16 "com/example/quantorum/quantorum/algebra/Relation") (S_GREATER_OR_EQUAL : Sta Z h0 "com/example/quantorum/quantorum/algebra/Relation" "GREATER_OR_EQUAL" "Lcom/example/quantorum/quantorum/algebra/Relation;" (.ref w19)) (E_w19 : Exa Z h0 w19 "com/example/quantorum/quantorum/algebra/Relation") (hlo84 : ¬ ((p1 &&& (2147483647 : Int32)) % (6 : Int32)) < 0 ∧ ((p1 &&& (2147483647 : Int32)) % (6 : Int32)) < (6 : Int32)) (hel84 : ([(.ref w4), (.ref w7), (.ref w10), (.ref w13), (.ref w16), (.ref w19)] : List Value).getD (((p1 &&& (2147483647 : Int32)) % (6 : Int32))).toNatClampNeg .null = (.ref w29)) (hlo113 : ¬ ((p1 &&& (2147483647 : Int32)) % (6 : Int32)) < 0 ∧ ((p1 &&& (2147483647 : Int32)) % (6 : Int32)) < (6 : Int32)) (hel113 : ([(.int (2 : Int32)), (.int (5 : Int32)), (.int (1 : Int32)), (.int (3 : Int32)), (.int (4 : Int32)), (.int (6 : Int32))] : List Value).getD (((p1 &&& (2147483647 : Int32)) % (6 : Int32))).toNatClampNeg (.int (0 : Int32)) = (.int w30)) (E_w29 : Exa Z h0 w29 "com/example/quantorum/quantorum/algebra/Relation") (hcall : ∀ h, Keep h0 h [] → n0 ≤ h.size → own_Call l Z w29 p2 (1 : Int32) h n0) (hc88 : p2 < (0 : Int32)) (hc119 : ¬ (((w30 >>> ((0 : Int32) &&& 31)) &&& (1 : Int32)) = (0 : Int32))) :
    MetFree l x (head1 (Jvm.Cond.code x code maxLocals ret :: ws) room_1) (fun a U => a = #[(.int p1), (.int p2)] ∧ Z.Warmed39 U.vm ∧ U.heap = h0) (fun _ _ _ _ _ => True) (fun _ U o U' => ∃ v L, o = .returned v ∧ Q0 n0 v L ∧ FrameEnd U o U' L room_1.cells room_1.slots) := by
  refine MetFree.of_bodySF (plainFor_of_name pn_0) hisR ?_
  intro p e s m args below meth c s₁ Bd hml0 hP hK
  obtain ⟨rfl, hZ, hh⟩ := hP
  have hx := Bd.exec
  have hby := Bd.bytes
  have hml : c.maxLocals = 8 := hml0
  have hown : s.vm.findClass "com/example/quantorum/quantorum/algebra/RelationHoldsPinLaw" = some m.cls := findClass_of_methodNamed Bd.named
  have hnm := (name_of_methodNamed Bd.named Bd.method).1
  have X0 : Stand p l e room_1 s m #[(.int p1), (.int p2)] below meth c s₁ [] 0 0 := Stand.of_body Bd
  have e0 : s₁.heap = h0 := by rw [← hh, Bd.state]; rfl
  have N0 := Fr.nil n0
  have pre0 : ∀ t, Steps p.tables e below (s₁.setTop (mkF m 0 #[.val (.int p1), .val (.int p2), .unset, .unset, .unset, .unset, .unset, .unset] [])) t → Steps p.tables e below (s₁.setTop (entryFrame m #[(.int p1), (.int p2)] maxLocals)) t := fun t k => castTop (ef_0 m p1 p2) k
  obtain ⟨T3, h3, k3, X3, e3, E3, A3, O3, st3⟩ := newR X0 hx hZ hown (hw _ (List.mem_of_getElem? (i := 0) rfl)) (hw _ (List.mem_of_getElem? (i := 1) rfl)) e0 (g := (mkF m 2 #[.val (.int p1), .val (.int p2), .unset, .unset, .unset, .unset, .unset, .unset] [(.int (6 : Int32))])) rfl (hb hby at_2) rfl (by decide) (cap := 6) (by decide) (by decide) (by decide) (by decide)
  obtain ⟨b3, g3⟩ : ∃ z, z = h0.size := ⟨_, rfl⟩      -- the fresh array's address
  rw [← g3] at A3 st3
  have V_b3 : Arv Z h3 b3 k3 (.object "com/example/quantorum/quantorum/algebra/Relation") (6 : Int32) [.null, .null, .null, .null, .null, .null] .null := (Arv.new A3 (by decide)).pad (pad_rep [] .null 6)
  have g_b3 : n0 ≤ b3 := Nat.le_trans Z0 (Nat.le_of_eq g3.symm)
  have sz_b3 : h0.size ≤ b3 := (Nat.le_trans (Keep.refl h0 []).1 (Nat.le_of_eq g3.symm))
  have K3 : Keep h0 h3 [] := (Keep.refl h0 []).ext E3
  obtain ⟨T5, X5, e5, st5⟩ := getS2 X3 hx hZ hown (host := "") (Or.inl (hw _ (List.mem_of_getElem? (i := 2) rfl))) Via.refl e3 (S_EQUAL.ext (own_ext K3)) (g := (mkF m 7 #[.val (.int p1), .val (.int p2), .unset, .unset, .unset, .unset, .unset, .unset] [(.int (0 : Int32)), (.ref b3), (.ref b3)])) rfl (hb hby at_7)
  obtain ⟨cl_b3_10, Ar_b3, q_b3, S_b3, N_b3, H_b3, G_b3⟩ := V_b3
  have hin10 : ¬ ((0 : Int32) < 0 ∨ cl_b3_10.slots.size ≤ ((0 : Int32)).toNatClampNeg) := inb_of S_b3 ⟨by decide, by decide⟩
  have Sto10 : Sto Z h3 b3 (.ref w4) := Sto.ofV Ar_b3 q_b3 O3 (Ins.self (E_w4.keep K3))
  obtain ⟨T6, h6, X6, e6, W6, st6⟩ := stR X5 hx hZ e5 Ar_b3 (j := (0 : Int32)) hin10 rfl Sto10 (g := (mkF m 10 #[.val (.int p1), .val (.int p2), .unset, .unset, .unset, .unset, .unset, .unset] [(.ref w4), (.int (0 : Int32)), (.ref b3), (.ref b3)])) rfl rfl (hb hby at_10)
  have V_b3_6 := Arv.set Ar_b3 q_b3 S_b3 N_b3 H_b3 G_b3 rfl W6 0 rfl (Nat.le_of_ble_eq_true rfl)
  have K6 : Keep h0 h6 [] := K3.wr W6 (Or.inr sz_b3)
  have N6 := Fr.snoc X6 N0 g_b3
  obtain ⟨T8, X8, e8, st8⟩ := getS2 X6 hx hZ hown (host := "") (Or.inl (hw _ (List.mem_of_getElem? (i := 6) rfl))) Via.refl e6 (S_NOT_EQUAL.ext (own_ext K6)) (g := (mkF m 13 #[.val (.int p1), .val (.int p2), .unset, .unset, .unset, .unset, .unset, .unset] [(.int (1 : Int32)), (.ref b3), (.ref b3)])) rfl (hb hby at_13)
  obtain ⟨cl_b3_16, Ar_b3, q_b3, S_b3, N_b3, H_b3, G_b3⟩ := V_b3_6
  have hin16 : ¬ ((1 : Int32) < 0 ∨ cl_b3_16.slots.size ≤ ((1 : Int32)).toNatClampNeg) := inb_of S_b3 ⟨by decide, by decide⟩
  have Sto16 : Sto Z h6 b3 (.ref w7) := Sto.ofV Ar_b3 q_b3 O3 (Ins.self (E_w7.keep K6))
  obtain ⟨T9, h9, X9, e9, W9, st9⟩ := stR X8 hx hZ e8 Ar_b3 (j := (1 : Int32)) hin16 rfl Sto16 (g := (mkF m 16 #[.val (.int p1), .val (.int p2), .unset, .unset, .unset, .unset, .unset, .unset] [(.ref w7), (.int (1 : Int32)), (.ref b3), (.ref b3)])) rfl rfl (hb hby at_16)
  have V_b3_9 := Arv.set Ar_b3 q_b3 S_b3 N_b3 H_b3 G_b3 rfl W9 1 rfl (Nat.le_of_ble_eq_true rfl)
  have K9 : Keep h0 h9 [] := K6.wr W9 (Or.inr sz_b3)
  have N9 := Fr.snoc X9 N6 g_b3
  obtain ⟨T11, X11, e11, st11⟩ := getS2 X9 hx hZ hown (host := "") (Or.inl (hw _ (List.mem_of_getElem? (i := 8) rfl))) Via.refl e9 (S_LESS.ext (own_ext K9)) (g := (mkF m 19 #[.val (.int p1), .val (.int p2), .unset, .unset, .unset, .unset, .unset, .unset] [(.int (2 : Int32)), (.ref b3), (.ref b3)])) rfl (hb hby at_19)
  obtain ⟨cl_b3_22, Ar_b3, q_b3, S_b3, N_b3, H_b3, G_b3⟩ := V_b3_9
  have hin22 : ¬ ((2 : Int32) < 0 ∨ cl_b3_22.slots.size ≤ ((2 : Int32)).toNatClampNeg) := inb_of S_b3 ⟨by decide, by decide⟩
  have Sto22 : Sto Z h9 b3 (.ref w10) := Sto.ofV Ar_b3 q_b3 O3 (Ins.self (E_w10.keep K9))
  obtain ⟨T12, h12, X12, e12, W12, st12⟩ := stR X11 hx hZ e11 Ar_b3 (j := (2 : Int32)) hin22 rfl Sto22 (g := (mkF m 22 #[.val (.int p1), .val (.int p2), .unset, .unset, .unset, .unset, .unset, .unset] [(.ref w10), (.int (2 : Int32)), (.ref b3), (.ref b3)])) rfl rfl (hb hby at_22)
  have V_b3_12 := Arv.set Ar_b3 q_b3 S_b3 N_b3 H_b3 G_b3 rfl W12 2 rfl (Nat.le_of_ble_eq_true rfl)
  have K12 : Keep h0 h12 [] := K9.wr W12 (Or.inr sz_b3)
  have N12 := Fr.snoc X12 N9 g_b3
  obtain ⟨T14, X14, e14, st14⟩ := getS2 X12 hx hZ hown (host := "") (Or.inl (hw _ (List.mem_of_getElem? (i := 10) rfl))) Via.refl e12 (S_LESS_OR_EQUAL.ext (own_ext K12)) (g := (mkF m 25 #[.val (.int p1), .val (.int p2), .unset, .unset, .unset, .unset, .unset, .unset] [(.int (3 : Int32)), (.ref b3), (.ref b3)])) rfl (hb hby at_25)
  obtain ⟨cl_b3_28, Ar_b3, q_b3, S_b3, N_b3, H_b3, G_b3⟩ := V_b3_12
  have hin28 : ¬ ((3 : Int32) < 0 ∨ cl_b3_28.slots.size ≤ ((3 : Int32)).toNatClampNeg) := inb_of S_b3 ⟨by decide, by decide⟩
  have Sto28 : Sto Z h12 b3 (.ref w13) := Sto.ofV Ar_b3 q_b3 O3 (Ins.self (E_w13.keep K12))
  obtain ⟨T15, h15, X15, e15, W15, st15⟩ := stR X14 hx hZ e14 Ar_b3 (j := (3 : Int32)) hin28 rfl Sto28 (g := (mkF m 28 #[.val (.int p1), .val (.int p2), .unset, .unset, .unset, .unset, .unset, .unset] [(.ref w13), (.int (3 : Int32)), (.ref b3), (.ref b3)])) rfl rfl (hb hby at_28)
  have V_b3_15 := Arv.set Ar_b3 q_b3 S_b3 N_b3 H_b3 G_b3 rfl W15 3 rfl (Nat.le_of_ble_eq_true rfl)
  have K15 : Keep h0 h15 [] := K12.wr W15 (Or.inr sz_b3)
  have N15 := Fr.snoc X15 N12 g_b3
  obtain ⟨T17, X17, e17, st17⟩ := getS2 X15 hx hZ hown (host := "") (Or.inl (hw _ (List.mem_of_getElem? (i := 12) rfl))) Via.refl e15 (S_GREATER.ext (own_ext K15)) (g := (mkF m 31 #[.val (.int p1), .val (.int p2), .unset, .unset, .unset, .unset, .unset, .unset] [(.int (4 : Int32)), (.ref b3), (.ref b3)])) rfl (hb hby at_31)
  obtain ⟨cl_b3_34, Ar_b3, q_b3, S_b3, N_b3, H_b3, G_b3⟩ := V_b3_15
  have hin34 : ¬ ((4 : Int32) < 0 ∨ cl_b3_34.slots.size ≤ ((4 : Int32)).toNatClampNeg) := inb_of S_b3 ⟨by decide, by decide⟩
  have Sto34 : Sto Z h15 b3 (.ref w16) := Sto.ofV Ar_b3 q_b3 O3 (Ins.self (E_w16.keep K15))
  obtain ⟨T18, h18, X18, e18, W18, st18⟩ := stR X17 hx hZ e17 Ar_b3 (j := (4 : Int32)) hin34 rfl Sto34 (g := (mkF m 34 #[.val (.int p1), .val (.int p2), .unset, .unset, .unset, .unset, .unset, .unset] [(.ref w16), (.int (4 : Int32)), (.ref b3), (.ref b3)])) rfl rfl (hb hby at_34)
  have V_b3_18 := Arv.set Ar_b3 q_b3 S_b3 N_b3 H_b3 G_b3 rfl W18 4 rfl (Nat.le_of_ble_eq_true rfl)
  have K18 : Keep h0 h18 [] := K15.wr W18 (Or.inr sz_b3)
  have N18 := Fr.snoc X18 N15 g_b3
  obtain ⟨T20, X20, e20, st20⟩ := getS2 X18 hx hZ hown (host := "") (Or.inl (hw _ (List.mem_of_getElem? (i := 14) rfl))) Via.refl e18 (S_GREATER_OR_EQUAL.ext (own_ext K18)) (g := (mkF m 37 #[.val (.int p1), .val (.int p2), .unset, .unset, .unset, .unset, .unset, .unset] [(.int (5 : Int32)), (.ref b3), (.ref b3)])) rfl (hb hby at_37)
  obtain ⟨cl_b3_40, Ar_b3, q_b3, S_b3, N_b3, H_b3, G_b3⟩ := V_b3_18
  have hin40 : ¬ ((5 : Int32) < 0 ∨ cl_b3_40.slots.size ≤ ((5 : Int32)).toNatClampNeg) := inb_of S_b3 ⟨by decide, by decide⟩
  have Sto40 : Sto Z h18 b3 (.ref w19) := Sto.ofV Ar_b3 q_b3 O3 (Ins.self (E_w19.keep K18))
  obtain ⟨T21, h21, X21, e21, W21, st21⟩ := stR X20 hx hZ e20 Ar_b3 (j := (5 : Int32)) hin40 rfl Sto40 (g := (mkF m 40 #[.val (.int p1), .val (.int p2), .unset, .unset, .unset, .unset, .unset, .unset] [(.ref w19), (.int (5 : Int32)), (.ref b3), (.ref b3)])) rfl rfl (hb hby at_40)
  have V_b3_21 := Arv.set Ar_b3 q_b3 S_b3 N_b3 H_b3 G_b3 rfl W21 5 rfl (Nat.le_of_ble_eq_true rfl)
  have K21 : Keep h0 h21 [] := K18.wr W21 (Or.inr sz_b3)
  have N21 := Fr.snoc X21 N18 g_b3
  obtain ⟨T22, h22, k22, X22, e22, E22, A22, st22⟩ := newP X21 hx hZ (hw _ (List.mem_of_getElem? (i := 16) rfl)) e21 (g := (mkF m 44 #[.val (.int p1), .val (.int p2), .val (.ref b3), .unset, .unset, .unset, .unset, .unset] [(.int (6 : Int32))])) rfl (hb hby at_44) rfl (by decide) (cap := 6) (by decide) (by decide) (by decide) (by decide)
  obtain ⟨b22, g22⟩ : ∃ z, z = h21.size := ⟨_, rfl⟩      -- the fresh array's address
  rw [← g22] at A22 st22
  have V_b22 : Arv Z h22 b22 k22 .int (6 : Int32) [(.int (0 : Int32)), (.int (0 : Int32)), (.int (0 : Int32)), (.int (0 : Int32)), (.int (0 : Int32)), (.int (0 : Int32))] (.int (0 : Int32)) := (Arv.new A22 (by decide)).pad (pad_rep [] (.int (0 : Int32)) 6)
  have g_b22 : n0 ≤ b22 := Nat.le_trans (Nat.le_trans (Nat.le_trans (Nat.le_trans (Nat.le_trans (Nat.le_trans (Nat.le_trans (Nat.le_trans Z0 E3.1) (Keep.of_wr W6).1) (Keep.of_wr W9).1) (Keep.of_wr W12).1) (Keep.of_wr W15).1) (Keep.of_wr W18).1) (Keep.of_wr W21).1) (Nat.le_of_eq g22.symm)
  have sz_b22 : h0.size ≤ b22 := (Nat.le_trans K21.1 (Nat.le_of_eq g22.symm))
  have K22 : Keep h0 h22 [] := K21.ext E22
  obtain ⟨cl_b22_49, Ar_b22, q_b22, S_b22, N_b22, H_b22, G_b22⟩ := V_b22      -- open the array's fact as it stands now (its cell, kind, length, elements)
  have hin49 : ¬ ((0 : Int32) < 0 ∨ cl_b22_49.slots.size ≤ ((0 : Int32)).toNatClampNeg) := inb_of S_b22 ⟨by decide, by decide⟩
  obtain ⟨T23, h23, X23, e23, W23, st23⟩ := stI X22 hx hZ e22 Ar_b22 (j := (0 : Int32)) hin49 (g := (mkF m 49 #[.val (.int p1), .val (.int p2), .val (.ref b3), .unset, .unset, .unset, .unset, .unset] [(.int (2 : Int32)), (.int (0 : Int32)), (.ref b22), (.ref b22)])) rfl rfl (hb hby at_49)
  have V_b22_23 := Arv.set Ar_b22 q_b22 S_b22 N_b22 H_b22 G_b22 rfl W23 0 rfl (Nat.le_of_ble_eq_true rfl)      -- the array as it stands now (the place must lie among its first values: Arv.pad with pad_rep lengthens them)
  have K23 : Keep h0 h23 [] := K22.wr W23 (Or.inr sz_b22)
  have N23 := Fr.snoc X23 N21 g_b22
  obtain ⟨cl_b22_53, Ar_b22, q_b22, S_b22, N_b22, H_b22, G_b22⟩ := V_b22_23      -- open the array's fact as it stands now (its cell, kind, length, elements)
  have hin53 : ¬ ((1 : Int32) < 0 ∨ cl_b22_53.slots.size ≤ ((1 : Int32)).toNatClampNeg) := inb_of S_b22 ⟨by decide, by decide⟩
  obtain ⟨T24, h24, X24, e24, W24, st24⟩ := stI X23 hx hZ e23 Ar_b22 (j := (1 : Int32)) hin53 (g := (mkF m 53 #[.val (.int p1), .val (.int p2), .val (.ref b3), .unset, .unset, .unset, .unset, .unset] [(.int (5 : Int32)), (.int (1 : Int32)), (.ref b22), (.ref b22)])) rfl rfl (hb hby at_53)
  have V_b22_24 := Arv.set Ar_b22 q_b22 S_b22 N_b22 H_b22 G_b22 rfl W24 1 rfl (Nat.le_of_ble_eq_true rfl)      -- the array as it stands now (the place must lie among its first values: Arv.pad with pad_rep lengthens them)
  have K24 : Keep h0 h24 [] := K23.wr W24 (Or.inr sz_b22)
  have N24 := Fr.snoc X24 N23 g_b22
  obtain ⟨cl_b22_57, Ar_b22, q_b22, S_b22, N_b22, H_b22, G_b22⟩ := V_b22_24      -- open the array's fact as it stands now (its cell, kind, length, elements)
  have hin57 : ¬ ((2 : Int32) < 0 ∨ cl_b22_57.slots.size ≤ ((2 : Int32)).toNatClampNeg) := inb_of S_b22 ⟨by decide, by decide⟩
  obtain ⟨T25, h25, X25, e25, W25, st25⟩ := stI X24 hx hZ e24 Ar_b22 (j := (2 : Int32)) hin57 (g := (mkF m 57 #[.val (.int p1), .val (.int p2), .val (.ref b3), .unset, .unset, .unset, .unset, .unset] [(.int (1 : Int32)), (.int (2 : Int32)), (.ref b22), (.ref b22)])) rfl rfl (hb hby at_57)
  have V_b22_25 := Arv.set Ar_b22 q_b22 S_b22 N_b22 H_b22 G_b22 rfl W25 2 rfl (Nat.le_of_ble_eq_true rfl)      -- the array as it stands now (the place must lie among its first values: Arv.pad with pad_rep lengthens them)
  have K25 : Keep h0 h25 [] := K24.wr W25 (Or.inr sz_b22)
  have N25 := Fr.snoc X25 N24 g_b22
  obtain ⟨cl_b22_61, Ar_b22, q_b22, S_b22, N_b22, H_b22, G_b22⟩ := V_b22_25      -- open the array's fact as it stands now (its cell, kind, length, elements)
  have hin61 : ¬ ((3 : Int32) < 0 ∨ cl_b22_61.slots.size ≤ ((3 : Int32)).toNatClampNeg) := inb_of S_b22 ⟨by decide, by decide⟩
  obtain ⟨T26, h26, X26, e26, W26, st26⟩ := stI X25 hx hZ e25 Ar_b22 (j := (3 : Int32)) hin61 (g := (mkF m 61 #[.val (.int p1), .val (.int p2), .val (.ref b3), .unset, .unset, .unset, .unset, .unset] [(.int (3 : Int32)), (.int (3 : Int32)), (.ref b22), (.ref b22)])) rfl rfl (hb hby at_61)
  have V_b22_26 := Arv.set Ar_b22 q_b22 S_b22 N_b22 H_b22 G_b22 rfl W26 3 rfl (Nat.le_of_ble_eq_true rfl)      -- the array as it stands now (the place must lie among its first values: Arv.pad with pad_rep lengthens them)
  have K26 : Keep h0 h26 [] := K25.wr W26 (Or.inr sz_b22)
  have N26 := Fr.snoc X26 N25 g_b22
  obtain ⟨cl_b22_65, Ar_b22, q_b22, S_b22, N_b22, H_b22, G_b22⟩ := V_b22_26      -- open the array's fact as it stands now (its cell, kind, length, elements)
  have hin65 : ¬ ((4 : Int32) < 0 ∨ cl_b22_65.slots.size ≤ ((4 : Int32)).toNatClampNeg) := inb_of S_b22 ⟨by decide, by decide⟩
  obtain ⟨T27, h27, X27, e27, W27, st27⟩ := stI X26 hx hZ e26 Ar_b22 (j := (4 : Int32)) hin65 (g := (mkF m 65 #[.val (.int p1), .val (.int p2), .val (.ref b3), .unset, .unset, .unset, .unset, .unset] [(.int (4 : Int32)), (.int (4 : Int32)), (.ref b22), (.ref b22)])) rfl rfl (hb hby at_65)
  have V_b22_27 := Arv.set Ar_b22 q_b22 S_b22 N_b22 H_b22 G_b22 rfl W27 4 rfl (Nat.le_of_ble_eq_true rfl)      -- the array as it stands now (the place must lie among its first values: Arv.pad with pad_rep lengthens them)
  have K27 : Keep h0 h27 [] := K26.wr W27 (Or.inr sz_b22)
  have N27 := Fr.snoc X27 N26 g_b22
  obtain ⟨cl_b22_70, Ar_b22, q_b22, S_b22, N_b22, H_b22, G_b22⟩ := V_b22_27      -- open the array's fact as it stands now (its cell, kind, length, elements)
  have hin70 : ¬ ((5 : Int32) < 0 ∨ cl_b22_70.slots.size ≤ ((5 : Int32)).toNatClampNeg) := inb_of S_b22 ⟨by decide, by decide⟩
  obtain ⟨T28, h28, X28, e28, W28, st28⟩ := stI X27 hx hZ e27 Ar_b22 (j := (5 : Int32)) hin70 (g := (mkF m 70 #[.val (.int p1), .val (.int p2), .val (.ref b3), .unset, .unset, .unset, .unset, .unset] [(.int (6 : Int32)), (.int (5 : Int32)), (.ref b22), (.ref b22)])) rfl rfl (hb hby at_70)
  have V_b22_28 := Arv.set Ar_b22 q_b22 S_b22 N_b22 H_b22 G_b22 rfl W28 5 rfl (Nat.le_of_ble_eq_true rfl)      -- the array as it stands now (the place must lie among its first values: Arv.pad with pad_rep lengthens them)
  have K28 : Keep h0 h28 [] := K27.wr W28 (Or.inr sz_b22)
  have N28 := Fr.snoc X28 N27 g_b22
  obtain ⟨cl_b3_84, Ar_b3_84, -, S_b3_84, -, H_b3_84, -⟩ := (((((((V_b3_21.ext E22).other W23 (Nat.ne_of_lt (Nat.lt_of_lt_of_le V_b3_21.lt (Nat.le_of_eq g22.symm)))).other W24 (Nat.ne_of_lt (Nat.lt_of_lt_of_le V_b3_21.lt (Nat.le_of_eq g22.symm)))).other W25 (Nat.ne_of_lt (Nat.lt_of_lt_of_le V_b3_21.lt (Nat.le_of_eq g22.symm)))).other W26 (Nat.ne_of_lt (Nat.lt_of_lt_of_le V_b3_21.lt (Nat.le_of_eq g22.symm)))).other W27 (Nat.ne_of_lt (Nat.lt_of_lt_of_le V_b3_21.lt (Nat.le_of_eq g22.symm)))).other W28 (Nat.ne_of_lt (Nat.lt_of_lt_of_le V_b3_21.lt (Nat.le_of_eq g22.symm))))
  have hin84 : ¬ (((p1 &&& (2147483647 : Int32)) % (6 : Int32)) < 0 ∨ cl_b3_84.slots.size ≤ (((p1 &&& (2147483647 : Int32)) % (6 : Int32))).toNatClampNeg) := inb_of S_b3_84 hlo84
  have hat84 : cl_b3_84.slots[(((p1 &&& (2147483647 : Int32)) % (6 : Int32))).toNatClampNeg]? = some (.ref w29) := (H_b3_84 _ (Nat.lt_of_not_le fun q => hin84 (Or.inr q))).trans (congrArg some hel84)
  obtain ⟨cl_b22_113, Ar_b22_113, -, S_b22_113, -, H_b22_113, -⟩ := V_b22_28
  have hin113 : ¬ (((p1 &&& (2147483647 : Int32)) % (6 : Int32)) < 0 ∨ cl_b22_113.slots.size ≤ (((p1 &&& (2147483647 : Int32)) % (6 : Int32))).toNatClampNeg) := inb_of S_b22_113 hlo113
  have hat113 : cl_b22_113.slots[(((p1 &&& (2147483647 : Int32)) % (6 : Int32))).toNatClampNeg]? = some (.int w30) := (H_b22_113 _ (Nat.lt_of_not_le fun q => hin113 (Or.inr q))).trans (congrArg some hel113)
  obtain ⟨cq31, kq31, q31a, q31b, q31c⟩ := isOf hZ e28 ((((((((((((((E_w29.ext E3).wr W6).wr W9).wr W12).wr W15).wr W18).wr W21).ext E22).wr W23).wr W24).wr W25).wr W26).wr W27).wr W28)
  obtain ⟨_, _, ⟨T31, L31, k31, n31⟩, -, X31, ⟨Lc31, hQ31, l31, y31, z31⟩, st31⟩ := X28.virtualBack hx (y := (⟨"com/example/quantorum/quantorum/algebra/Relation", "holds", "(I)Z"⟩ : MethodName)) (z := (⟨"com/example/quantorum/quantorum/algebra/Relation", "holds", "(I)Z"⟩ : MethodName)) hown (mvT hZ (hw _ (List.mem_of_getElem? (i := 18) rfl))) (mvT hZ (hw _ (List.mem_of_getElem? (i := 19) rfl))) (notFace_of_selects (args := #[]) (mvT hZ (hw _ (List.mem_of_getElem? (i := 21) rfl)))) (mvT hZ (hw _ (List.mem_of_getElem? (i := 21) rfl))) (mvT hZ (hw _ (List.mem_of_getElem? (i := 20) rfl))) (by decide) (backOf (W := 0) (hcall h28 K28 (Nat.le_trans Z0 K28.1)) hZ (hw _ (List.mem_of_getElem? (i := 22) rfl)) (hw _ (List.mem_of_getElem? (i := 3) rfl)) (by decide) (by decide)) q31a q31c (g := (mkF m 132 #[.val (.int p1), .val (.int p2), .val (.ref b3), .val (.ref b22), .val (.int ((p1 &&& (2147483647 : Int32)) % (6 : Int32))), .val (.ref w29), .val (.int (0 : Int32)), .val (.int (1 : Int32))] [(.int p2), (.ref w29)])) rfl (by rw [hml]; rfl) (Steps.refl _) (argsL := [(.int p2)]) (rest := []) (lenOf pd_0_0 rfl) rfl (by show 2 * 0 + _ ≤ _; exact Nat.le_of_eq rfl) (hb hby at_132) (fun _ _ => ⟨rfl, e28, (by decide : 2 + 0 ≤ _), (by decide : 12 + 0 ≤ _)⟩)
  dsimp only [Pt.U, Pt.locs, Pt.cells, Pt.slots] at X31 l31 y31 z31 st31 hQ31
  subst l31 y31 z31
  obtain ⟨rfl, N31q, e31⟩ := hQ31
  have N31 := Fr.app N28 N31q
  obtain ⟨fs, hr, hrun, hended, hW, hsame⟩ := X31.leave (v := some (.int (1 : Int32))) (fun h => by rw [Bd.returns] at h; cases h)
  refine ⟨_, _, pre0 _ ?_, hrun, hended, _, _, rfl, ?_, ⟨_, rfl⟩, hW, hsame.mono (by decide) (by decide)⟩
  · show Steps p.tables e below (s₁.setTop (mkF m 0 #[.val (.int p1), .val (.int p2), .unset, .unset, .unset, .unset, .unset, .unset] [])) _
    refine XS.bipush X0.here hx rfl (hb hby at_0) ?_
    show Steps p.tables e below (s₁.setTop (mkF m 2 #[.val (.int p1), .val (.int p2), .unset, .unset, .unset, .unset, .unset, .unset] [(.int (6 : Int32))])) _
    refine st3 _ ?_
    show Steps p.tables e below (T3.setTop (mkF m 5 #[.val (.int p1), .val (.int p2), .unset, .unset, .unset, .unset, .unset, .unset] [(.ref b3)])) _
    refine XS.dup X3.here hx rfl (hb hby at_5) rfl rfl ?_
    show Steps p.tables e below (T3.setTop (mkF m 6 #[.val (.int p1), .val (.int p2), .unset, .unset, .unset, .unset, .unset, .unset] [(.ref b3), (.ref b3)])) _
    refine XS.iconst X3.here hx rfl (hb hby at_6) ?_
    show Steps p.tables e below (T3.setTop (mkF m 7 #[.val (.int p1), .val (.int p2), .unset, .unset, .unset, .unset, .unset, .unset] [(.int (0 : Int32)), (.ref b3), (.ref b3)])) _
    refine st5 _ ?_
    show Steps p.tables e below (T5.setTop (mkF m 10 #[.val (.int p1), .val (.int p2), .unset, .unset, .unset, .unset, .unset, .unset] [(.ref w4), (.int (0 : Int32)), (.ref b3), (.ref b3)])) _
    refine st6 _ ?_
    show Steps p.tables e below (T6.setTop (mkF m 11 #[.val (.int p1), .val (.int p2), .unset, .unset, .unset, .unset, .unset, .unset] [(.ref b3)])) _
    refine XS.dup X6.here hx rfl (hb hby at_11) rfl rfl ?_
    show Steps p.tables e below (T6.setTop (mkF m 12 #[.val (.int p1), .val (.int p2), .unset, .unset, .unset, .unset, .unset, .unset] [(.ref b3), (.ref b3)])) _
    refine XS.iconst X6.here hx rfl (hb hby at_12) ?_
    show Steps p.tables e below (T6.setTop (mkF m 13 #[.val (.int p1), .val (.int p2), .unset, .unset, .unset, .unset, .unset, .unset] [(.int (1 : Int32)), (.ref b3), (.ref b3)])) _
    refine st8 _ ?_
    show Steps p.tables e below (T8.setTop (mkF m 16 #[.val (.int p1), .val (.int p2), .unset, .unset, .unset, .unset, .unset, .unset] [(.ref w7), (.int (1 : Int32)), (.ref b3), (.ref b3)])) _
    refine st9 _ ?_
    show Steps p.tables e below (T9.setTop (mkF m 17 #[.val (.int p1), .val (.int p2), .unset, .unset, .unset, .unset, .unset, .unset] [(.ref b3)])) _
    refine XS.dup X9.here hx rfl (hb hby at_17) rfl rfl ?_
    show Steps p.tables e below (T9.setTop (mkF m 18 #[.val (.int p1), .val (.int p2), .unset, .unset, .unset, .unset, .unset, .unset] [(.ref b3), (.ref b3)])) _
    refine XS.iconst X9.here hx rfl (hb hby at_18) ?_
    show Steps p.tables e below (T9.setTop (mkF m 19 #[.val (.int p1), .val (.int p2), .unset, .unset, .unset, .unset, .unset, .unset] [(.int (2 : Int32)), (.ref b3), (.ref b3)])) _
    refine st11 _ ?_
    show Steps p.tables e below (T11.setTop (mkF m 22 #[.val (.int p1), .val (.int p2), .unset, .unset, .unset, .unset, .unset, .unset] [(.ref w10), (.int (2 : Int32)), (.ref b3), (.ref b3)])) _
    refine st12 _ ?_
    show Steps p.tables e below (T12.setTop (mkF m 23 #[.val (.int p1), .val (.int p2), .unset, .unset, .unset, .unset, .unset, .unset] [(.ref b3)])) _
    refine XS.dup X12.here hx rfl (hb hby at_23) rfl rfl ?_
    show Steps p.tables e below (T12.setTop (mkF m 24 #[.val (.int p1), .val (.int p2), .unset, .unset, .unset, .unset, .unset, .unset] [(.ref b3), (.ref b3)])) _
    refine XS.iconst X12.here hx rfl (hb hby at_24) ?_
    show Steps p.tables e below (T12.setTop (mkF m 25 #[.val (.int p1), .val (.int p2), .unset, .unset, .unset, .unset, .unset, .unset] [(.int (3 : Int32)), (.ref b3), (.ref b3)])) _
    refine st14 _ ?_
    show Steps p.tables e below (T14.setTop (mkF m 28 #[.val (.int p1), .val (.int p2), .unset, .unset, .unset, .unset, .unset, .unset] [(.ref w13), (.int (3 : Int32)), (.ref b3), (.ref b3)])) _
    refine st15 _ ?_
    show Steps p.tables e below (T15.setTop (mkF m 29 #[.val (.int p1), .val (.int p2), .unset, .unset, .unset, .unset, .unset, .unset] [(.ref b3)])) _
    refine XS.dup X15.here hx rfl (hb hby at_29) rfl rfl ?_
    show Steps p.tables e below (T15.setTop (mkF m 30 #[.val (.int p1), .val (.int p2), .unset, .unset, .unset, .unset, .unset, .unset] [(.ref b3), (.ref b3)])) _
    refine XS.iconst X15.here hx rfl (hb hby at_30) ?_
    show Steps p.tables e below (T15.setTop (mkF m 31 #[.val (.int p1), .val (.int p2), .unset, .unset, .unset, .unset, .unset, .unset] [(.int (4 : Int32)), (.ref b3), (.ref b3)])) _
    refine st17 _ ?_
    show Steps p.tables e below (T17.setTop (mkF m 34 #[.val (.int p1), .val (.int p2), .unset, .unset, .unset, .unset, .unset, .unset] [(.ref w16), (.int (4 : Int32)), (.ref b3), (.ref b3)])) _
    refine st18 _ ?_
    show Steps p.tables e below (T18.setTop (mkF m 35 #[.val (.int p1), .val (.int p2), .unset, .unset, .unset, .unset, .unset, .unset] [(.ref b3)])) _
    refine XS.dup X18.here hx rfl (hb hby at_35) rfl rfl ?_
    show Steps p.tables e below (T18.setTop (mkF m 36 #[.val (.int p1), .val (.int p2), .unset, .unset, .unset, .unset, .unset, .unset] [(.ref b3), (.ref b3)])) _
    refine XS.iconst X18.here hx rfl (hb hby at_36) ?_
    show Steps p.tables e below (T18.setTop (mkF m 37 #[.val (.int p1), .val (.int p2), .unset, .unset, .unset, .unset, .unset, .unset] [(.int (5 : Int32)), (.ref b3), (.ref b3)])) _
    refine st20 _ ?_
    show Steps p.tables e below (T20.setTop (mkF m 40 #[.val (.int p1), .val (.int p2), .unset, .unset, .unset, .unset, .unset, .unset] [(.ref w19), (.int (5 : Int32)), (.ref b3), (.ref b3)])) _
    refine st21 _ ?_
    show Steps p.tables e below (T21.setTop (mkF m 41 #[.val (.int p1), .val (.int p2), .unset, .unset, .unset, .unset, .unset, .unset] [(.ref b3)])) _
    refine XS.astoreN X21.here hx rfl (hb hby at_41) rfl rfl (l' := #[.val (.int p1), .val (.int p2), .val (.ref b3), .unset, .unset, .unset, .unset, .unset]) rfl ?_
    show Steps p.tables e below (T21.setTop (mkF m 42 #[.val (.int p1), .val (.int p2), .val (.ref b3), .unset, .unset, .unset, .unset, .unset] [])) _
    refine XS.bipush X21.here hx rfl (hb hby at_42) ?_
    show Steps p.tables e below (T21.setTop (mkF m 44 #[.val (.int p1), .val (.int p2), .val (.ref b3), .unset, .unset, .unset, .unset, .unset] [(.int (6 : Int32))])) _
    refine st22 _ ?_
    show Steps p.tables e below (T22.setTop (mkF m 46 #[.val (.int p1), .val (.int p2), .val (.ref b3), .unset, .unset, .unset, .unset, .unset] [(.ref b22)])) _
    refine XS.dup X22.here hx rfl (hb hby at_46) rfl rfl ?_
    show Steps p.tables e below (T22.setTop (mkF m 47 #[.val (.int p1), .val (.int p2), .val (.ref b3), .unset, .unset, .unset, .unset, .unset] [(.ref b22), (.ref b22)])) _
    refine XS.iconst X22.here hx rfl (hb hby at_47) ?_
    show Steps p.tables e below (T22.setTop (mkF m 48 #[.val (.int p1), .val (.int p2), .val (.ref b3), .unset, .unset, .unset, .unset, .unset] [(.int (0 : Int32)), (.ref b22), (.ref b22)])) _
    refine XS.iconst X22.here hx rfl (hb hby at_48) ?_
    show Steps p.tables e below (T22.setTop (mkF m 49 #[.val (.int p1), .val (.int p2), .val (.ref b3), .unset, .unset, .unset, .unset, .unset] [(.int (2 : Int32)), (.int (0 : Int32)), (.ref b22), (.ref b22)])) _
    refine st23 _ ?_
    show Steps p.tables e below (T23.setTop (mkF m 50 #[.val (.int p1), .val (.int p2), .val (.ref b3), .unset, .unset, .unset, .unset, .unset] [(.ref b22)])) _
    refine XS.dup X23.here hx rfl (hb hby at_50) rfl rfl ?_
    show Steps p.tables e below (T23.setTop (mkF m 51 #[.val (.int p1), .val (.int p2), .val (.ref b3), .unset, .unset, .unset, .unset, .unset] [(.ref b22), (.ref b22)])) _
    refine XS.iconst X23.here hx rfl (hb hby at_51) ?_
    show Steps p.tables e below (T23.setTop (mkF m 52 #[.val (.int p1), .val (.int p2), .val (.ref b3), .unset, .unset, .unset, .unset, .unset] [(.int (1 : Int32)), (.ref b22), (.ref b22)])) _
    refine XS.iconst X23.here hx rfl (hb hby at_52) ?_
    show Steps p.tables e below (T23.setTop (mkF m 53 #[.val (.int p1), .val (.int p2), .val (.ref b3), .unset, .unset, .unset, .unset, .unset] [(.int (5 : Int32)), (.int (1 : Int32)), (.ref b22), (.ref b22)])) _
    refine st24 _ ?_
    show Steps p.tables e below (T24.setTop (mkF m 54 #[.val (.int p1), .val (.int p2), .val (.ref b3), .unset, .unset, .unset, .unset, .unset] [(.ref b22)])) _
    refine XS.dup X24.here hx rfl (hb hby at_54) rfl rfl ?_
    show Steps p.tables e below (T24.setTop (mkF m 55 #[.val (.int p1), .val (.int p2), .val (.ref b3), .unset, .unset, .unset, .unset, .unset] [(.ref b22), (.ref b22)])) _
    refine XS.iconst X24.here hx rfl (hb hby at_55) ?_
    show Steps p.tables e below (T24.setTop (mkF m 56 #[.val (.int p1), .val (.int p2), .val (.ref b3), .unset, .unset, .unset, .unset, .unset] [(.int (2 : Int32)), (.ref b22), (.ref b22)])) _
    refine XS.iconst X24.here hx rfl (hb hby at_56) ?_
    show Steps p.tables e below (T24.setTop (mkF m 57 #[.val (.int p1), .val (.int p2), .val (.ref b3), .unset, .unset, .unset, .unset, .unset] [(.int (1 : Int32)), (.int (2 : Int32)), (.ref b22), (.ref b22)])) _
    refine st25 _ ?_
    show Steps p.tables e below (T25.setTop (mkF m 58 #[.val (.int p1), .val (.int p2), .val (.ref b3), .unset, .unset, .unset, .unset, .unset] [(.ref b22)])) _
    refine XS.dup X25.here hx rfl (hb hby at_58) rfl rfl ?_
    show Steps p.tables e below (T25.setTop (mkF m 59 #[.val (.int p1), .val (.int p2), .val (.ref b3), .unset, .unset, .unset, .unset, .unset] [(.ref b22), (.ref b22)])) _
    refine XS.iconst X25.here hx rfl (hb hby at_59) ?_
    show Steps p.tables e below (T25.setTop (mkF m 60 #[.val (.int p1), .val (.int p2), .val (.ref b3), .unset, .unset, .unset, .unset, .unset] [(.int (3 : Int32)), (.ref b22), (.ref b22)])) _
    refine XS.iconst X25.here hx rfl (hb hby at_60) ?_
    show Steps p.tables e below (T25.setTop (mkF m 61 #[.val (.int p1), .val (.int p2), .val (.ref b3), .unset, .unset, .unset, .unset, .unset] [(.int (3 : Int32)), (.int (3 : Int32)), (.ref b22), (.ref b22)])) _
    refine st26 _ ?_
    show Steps p.tables e below (T26.setTop (mkF m 62 #[.val (.int p1), .val (.int p2), .val (.ref b3), .unset, .unset, .unset, .unset, .unset] [(.ref b22)])) _
    refine XS.dup X26.here hx rfl (hb hby at_62) rfl rfl ?_
    show Steps p.tables e below (T26.setTop (mkF m 63 #[.val (.int p1), .val (.int p2), .val (.ref b3), .unset, .unset, .unset, .unset, .unset] [(.ref b22), (.ref b22)])) _
    refine XS.iconst X26.here hx rfl (hb hby at_63) ?_
    show Steps p.tables e below (T26.setTop (mkF m 64 #[.val (.int p1), .val (.int p2), .val (.ref b3), .unset, .unset, .unset, .unset, .unset] [(.int (4 : Int32)), (.ref b22), (.ref b22)])) _
    refine XS.iconst X26.here hx rfl (hb hby at_64) ?_
    show Steps p.tables e below (T26.setTop (mkF m 65 #[.val (.int p1), .val (.int p2), .val (.ref b3), .unset, .unset, .unset, .unset, .unset] [(.int (4 : Int32)), (.int (4 : Int32)), (.ref b22), (.ref b22)])) _
    refine st27 _ ?_
    show Steps p.tables e below (T27.setTop (mkF m 66 #[.val (.int p1), .val (.int p2), .val (.ref b3), .unset, .unset, .unset, .unset, .unset] [(.ref b22)])) _
    refine XS.dup X27.here hx rfl (hb hby at_66) rfl rfl ?_
    show Steps p.tables e below (T27.setTop (mkF m 67 #[.val (.int p1), .val (.int p2), .val (.ref b3), .unset, .unset, .unset, .unset, .unset] [(.ref b22), (.ref b22)])) _
    refine XS.iconst X27.here hx rfl (hb hby at_67) ?_
    show Steps p.tables e below (T27.setTop (mkF m 68 #[.val (.int p1), .val (.int p2), .val (.ref b3), .unset, .unset, .unset, .unset, .unset] [(.int (5 : Int32)), (.ref b22), (.ref b22)])) _
    refine XS.bipush X27.here hx rfl (hb hby at_68) ?_
    show Steps p.tables e below (T27.setTop (mkF m 70 #[.val (.int p1), .val (.int p2), .val (.ref b3), .unset, .unset, .unset, .unset, .unset] [(.int (6 : Int32)), (.int (5 : Int32)), (.ref b22), (.ref b22)])) _
    refine st28 _ ?_
    show Steps p.tables e below (T28.setTop (mkF m 71 #[.val (.int p1), .val (.int p2), .val (.ref b3), .unset, .unset, .unset, .unset, .unset] [(.ref b22)])) _
    refine XS.astoreN X28.here hx rfl (hb hby at_71) rfl rfl (l' := #[.val (.int p1), .val (.int p2), .val (.ref b3), .val (.ref b22), .unset, .unset, .unset, .unset]) rfl ?_
    show Steps p.tables e below (T28.setTop (mkF m 72 #[.val (.int p1), .val (.int p2), .val (.ref b3), .val (.ref b22), .unset, .unset, .unset, .unset] [])) _
    refine XS.iloadN X28.here hx rfl (hb hby at_72) rfl ?_
    show Steps p.tables e below (T28.setTop (mkF m 73 #[.val (.int p1), .val (.int p2), .val (.ref b3), .val (.ref b22), .unset, .unset, .unset, .unset] [(.int p1)])) _
    refine X28.ldcInt hx hown (mvT hZ (hw _ (List.mem_of_getElem? (i := 17) rfl))) (g := (mkF m 73 #[.val (.int p1), .val (.int p2), .val (.ref b3), .val (.ref b22), .unset, .unset, .unset, .unset] [(.int p1)])) rfl (hb hby at_73) _ ?_
    show Steps p.tables e below (T28.setTop (mkF m 75 #[.val (.int p1), .val (.int p2), .val (.ref b3), .val (.ref b22), .unset, .unset, .unset, .unset] [(.int (2147483647 : Int32)), (.int p1)])) _
    refine XS.iand X28.here hx rfl (hb hby at_75) rfl ?_
    show Steps p.tables e below (T28.setTop (mkF m 76 #[.val (.int p1), .val (.int p2), .val (.ref b3), .val (.ref b22), .unset, .unset, .unset, .unset] [(.int (p1 &&& (2147483647 : Int32)))])) _
    refine XS.bipush X28.here hx rfl (hb hby at_76) ?_
    show Steps p.tables e below (T28.setTop (mkF m 78 #[.val (.int p1), .val (.int p2), .val (.ref b3), .val (.ref b22), .unset, .unset, .unset, .unset] [(.int (6 : Int32)), (.int (p1 &&& (2147483647 : Int32)))])) _
    refine iremM X28 hx rfl (hb hby at_78) rfl (by decide) ?_
    show Steps p.tables e below (T28.setTop (mkF m 79 #[.val (.int p1), .val (.int p2), .val (.ref b3), .val (.ref b22), .unset, .unset, .unset, .unset] [(.int ((p1 &&& (2147483647 : Int32)) % (6 : Int32)))])) _
    refine XS.istore X28.here hx rfl (hb hby at_79) rfl (l' := #[.val (.int p1), .val (.int p2), .val (.ref b3), .val (.ref b22), .val (.int ((p1 &&& (2147483647 : Int32)) % (6 : Int32))), .unset, .unset, .unset]) rfl ?_
    show Steps p.tables e below (T28.setTop (mkF m 81 #[.val (.int p1), .val (.int p2), .val (.ref b3), .val (.ref b22), .val (.int ((p1 &&& (2147483647 : Int32)) % (6 : Int32))), .unset, .unset, .unset] [])) _
    refine XS.aloadN X28.here hx rfl (hb hby at_81) rfl rfl ?_
    show Steps p.tables e below (T28.setTop (mkF m 82 #[.val (.int p1), .val (.int p2), .val (.ref b3), .val (.ref b22), .val (.int ((p1 &&& (2147483647 : Int32)) % (6 : Int32))), .unset, .unset, .unset] [(.ref b3)])) _
    refine XS.iload X28.here hx rfl (hb hby at_82) rfl ?_
    show Steps p.tables e below (T28.setTop (mkF m 84 #[.val (.int p1), .val (.int p2), .val (.ref b3), .val (.ref b22), .val (.int ((p1 &&& (2147483647 : Int32)) % (6 : Int32))), .unset, .unset, .unset] [(.int ((p1 &&& (2147483647 : Int32)) % (6 : Int32))), (.ref b3)])) _
    refine X28.aaload hx (j := ((p1 &&& (2147483647 : Int32)) % (6 : Int32))) (v := (.ref w29)) (by rw [e28]; exact Ar_b3_84.1) (State.isArrayOf_alike hZ.alike Ar_b3_84.2.1) rfl Ar_b3_84.2.2 hin84 hat84 (g := (mkF m 84 #[.val (.int p1), .val (.int p2), .val (.ref b3), .val (.ref b22), .val (.int ((p1 &&& (2147483647 : Int32)) % (6 : Int32))), .unset, .unset, .unset] [(.int ((p1 &&& (2147483647 : Int32)) % (6 : Int32))), (.ref b3)])) rfl rfl (hb hby at_84) _ ?_
    show Steps p.tables e below (T28.setTop (mkF m 85 #[.val (.int p1), .val (.int p2), .val (.ref b3), .val (.ref b22), .val (.int ((p1 &&& (2147483647 : Int32)) % (6 : Int32))), .unset, .unset, .unset] [(.ref w29)])) _
    refine XS.astore X28.here hx rfl (hb hby at_85) rfl rfl (l' := #[.val (.int p1), .val (.int p2), .val (.ref b3), .val (.ref b22), .val (.int ((p1 &&& (2147483647 : Int32)) % (6 : Int32))), .val (.ref w29), .unset, .unset]) rfl ?_
    show Steps p.tables e below (T28.setTop (mkF m 87 #[.val (.int p1), .val (.int p2), .val (.ref b3), .val (.ref b22), .val (.int ((p1 &&& (2147483647 : Int32)) % (6 : Int32))), .val (.ref w29), .unset, .unset] [])) _
    refine XS.iloadN X28.here hx rfl (hb hby at_87) rfl ?_
    show Steps p.tables e below (T28.setTop (mkF m 88 #[.val (.int p1), .val (.int p2), .val (.ref b3), .val (.ref b22), .val (.int ((p1 &&& (2147483647 : Int32)) % (6 : Int32))), .val (.ref w29), .unset, .unset] [(.int p2)])) _
    refine XS.ifNo X28.here hx rfl (hb hby at_88) rfl ((if0 _ _).trans (tlt hc88).2.1) ?_
    show Steps p.tables e below (T28.setTop (mkF m 91 #[.val (.int p1), .val (.int p2), .val (.ref b3), .val (.ref b22), .val (.int ((p1 &&& (2147483647 : Int32)) % (6 : Int32))), .val (.ref w29), .unset, .unset] [])) _
    refine XS.iconst X28.here hx rfl (hb hby at_91) ?_
    show Steps p.tables e below (T28.setTop (mkF m 92 #[.val (.int p1), .val (.int p2), .val (.ref b3), .val (.ref b22), .val (.int ((p1 &&& (2147483647 : Int32)) % (6 : Int32))), .val (.ref w29), .unset, .unset] [(.int (0 : Int32))])) _
    refine XS.istore X28.here hx rfl (hb hby at_92) rfl (l' := #[.val (.int p1), .val (.int p2), .val (.ref b3), .val (.ref b22), .val (.int ((p1 &&& (2147483647 : Int32)) % (6 : Int32))), .val (.ref w29), .val (.int (0 : Int32)), .unset]) rfl ?_
    show Steps p.tables e below (T28.setTop (mkF m 94 #[.val (.int p1), .val (.int p2), .val (.ref b3), .val (.ref b22), .val (.int ((p1 &&& (2147483647 : Int32)) % (6 : Int32))), .val (.ref w29), .val (.int (0 : Int32)), .unset] [])) _
    refine XS.goto X28.here hx rfl (pc0 := 94) (pc' := 110) rfl (hb hby at_94) (by decide) (by decide) ?_
    show Steps p.tables e below (T28.setTop (mkF m 110 #[.val (.int p1), .val (.int p2), .val (.ref b3), .val (.ref b22), .val (.int ((p1 &&& (2147483647 : Int32)) % (6 : Int32))), .val (.ref w29), .val (.int (0 : Int32)), .unset] [])) _
    refine XS.aloadN X28.here hx rfl (hb hby at_110) rfl rfl ?_
    show Steps p.tables e below (T28.setTop (mkF m 111 #[.val (.int p1), .val (.int p2), .val (.ref b3), .val (.ref b22), .val (.int ((p1 &&& (2147483647 : Int32)) % (6 : Int32))), .val (.ref w29), .val (.int (0 : Int32)), .unset] [(.ref b22)])) _
    refine XS.iload X28.here hx rfl (hb hby at_111) rfl ?_
    show Steps p.tables e below (T28.setTop (mkF m 113 #[.val (.int p1), .val (.int p2), .val (.ref b3), .val (.ref b22), .val (.int ((p1 &&& (2147483647 : Int32)) % (6 : Int32))), .val (.ref w29), .val (.int (0 : Int32)), .unset] [(.int ((p1 &&& (2147483647 : Int32)) % (6 : Int32))), (.ref b22)])) _
    refine X28.iaload hx (j := ((p1 &&& (2147483647 : Int32)) % (6 : Int32))) (v := (.int w30)) (by rw [e28]; exact Ar_b22_113.1) (State.isArrayOf_alike hZ.alike Ar_b22_113.2.1) Ar_b22_113.2.2 hin113 hat113 (g := (mkF m 113 #[.val (.int p1), .val (.int p2), .val (.ref b3), .val (.ref b22), .val (.int ((p1 &&& (2147483647 : Int32)) % (6 : Int32))), .val (.ref w29), .val (.int (0 : Int32)), .unset] [(.int ((p1 &&& (2147483647 : Int32)) % (6 : Int32))), (.ref b22)])) rfl rfl (hb hby at_113) _ ?_
    show Steps p.tables e below (T28.setTop (mkF m 114 #[.val (.int p1), .val (.int p2), .val (.ref b3), .val (.ref b22), .val (.int ((p1 &&& (2147483647 : Int32)) % (6 : Int32))), .val (.ref w29), .val (.int (0 : Int32)), .unset] [(.int w30)])) _
    refine XS.iload X28.here hx rfl (hb hby at_114) rfl ?_
    show Steps p.tables e below (T28.setTop (mkF m 116 #[.val (.int p1), .val (.int p2), .val (.ref b3), .val (.ref b22), .val (.int ((p1 &&& (2147483647 : Int32)) % (6 : Int32))), .val (.ref w29), .val (.int (0 : Int32)), .unset] [(.int (0 : Int32)), (.int w30)])) _
    refine XS.ishr X28.here hx rfl (hb hby at_116) rfl ?_
    show Steps p.tables e below (T28.setTop (mkF m 117 #[.val (.int p1), .val (.int p2), .val (.ref b3), .val (.ref b22), .val (.int ((p1 &&& (2147483647 : Int32)) % (6 : Int32))), .val (.ref w29), .val (.int (0 : Int32)), .unset] [(.int (w30 >>> ((0 : Int32) &&& 31)))])) _
    refine XS.iconst X28.here hx rfl (hb hby at_117) ?_
    show Steps p.tables e below (T28.setTop (mkF m 118 #[.val (.int p1), .val (.int p2), .val (.ref b3), .val (.ref b22), .val (.int ((p1 &&& (2147483647 : Int32)) % (6 : Int32))), .val (.ref w29), .val (.int (0 : Int32)), .unset] [(.int (1 : Int32)), (.int (w30 >>> ((0 : Int32) &&& 31)))])) _
    refine XS.iand X28.here hx rfl (hb hby at_118) rfl ?_
    show Steps p.tables e below (T28.setTop (mkF m 119 #[.val (.int p1), .val (.int p2), .val (.ref b3), .val (.ref b22), .val (.int ((p1 &&& (2147483647 : Int32)) % (6 : Int32))), .val (.ref w29), .val (.int (0 : Int32)), .unset] [(.int ((w30 >>> ((0 : Int32) &&& 31)) &&& (1 : Int32)))])) _
    refine XS.ifNo X28.here hx rfl (hb hby at_119) rfl ((if0 _ _).trans (feq hc119).1) ?_
    show Steps p.tables e below (T28.setTop (mkF m 122 #[.val (.int p1), .val (.int p2), .val (.ref b3), .val (.ref b22), .val (.int ((p1 &&& (2147483647 : Int32)) % (6 : Int32))), .val (.ref w29), .val (.int (0 : Int32)), .unset] [])) _
    refine XS.iconst X28.here hx rfl (hb hby at_122) ?_
    show Steps p.tables e below (T28.setTop (mkF m 123 #[.val (.int p1), .val (.int p2), .val (.ref b3), .val (.ref b22), .val (.int ((p1 &&& (2147483647 : Int32)) % (6 : Int32))), .val (.ref w29), .val (.int (0 : Int32)), .unset] [(.int (1 : Int32))])) _
    refine XS.goto X28.here hx rfl (pc0 := 123) (pc' := 127) rfl (hb hby at_123) (by decide) (by decide) ?_
    show Steps p.tables e below (T28.setTop (mkF m 127 #[.val (.int p1), .val (.int p2), .val (.ref b3), .val (.ref b22), .val (.int ((p1 &&& (2147483647 : Int32)) % (6 : Int32))), .val (.ref w29), .val (.int (0 : Int32)), .unset] [(.int (1 : Int32))])) _
    refine XS.istore X28.here hx rfl (hb hby at_127) rfl (l' := #[.val (.int p1), .val (.int p2), .val (.ref b3), .val (.ref b22), .val (.int ((p1 &&& (2147483647 : Int32)) % (6 : Int32))), .val (.ref w29), .val (.int (0 : Int32)), .val (.int (1 : Int32))]) rfl ?_
    show Steps p.tables e below (T28.setTop (mkF m 129 #[.val (.int p1), .val (.int p2), .val (.ref b3), .val (.ref b22), .val (.int ((p1 &&& (2147483647 : Int32)) % (6 : Int32))), .val (.ref w29), .val (.int (0 : Int32)), .val (.int (1 : Int32))] [])) _
    refine XS.aload X28.here hx rfl (hb hby at_129) rfl rfl ?_
    show Steps p.tables e below (T28.setTop (mkF m 131 #[.val (.int p1), .val (.int p2), .val (.ref b3), .val (.ref b22), .val (.int ((p1 &&& (2147483647 : Int32)) % (6 : Int32))), .val (.ref w29), .val (.int (0 : Int32)), .val (.int (1 : Int32))] [(.ref w29)])) _
    refine XS.iloadN X28.here hx rfl (hb hby at_131) rfl ?_
    show Steps p.tables e below (T28.setTop (mkF m 132 #[.val (.int p1), .val (.int p2), .val (.ref b3), .val (.ref b22), .val (.int ((p1 &&& (2147483647 : Int32)) % (6 : Int32))), .val (.ref w29), .val (.int (0 : Int32)), .val (.int (1 : Int32))] [(.int p2), (.ref w29)])) _
    refine st31.trans ?_
    show Steps p.tables e below (T31.setTop (mkF m 135 #[.val (.int p1), .val (.int p2), .val (.ref b3), .val (.ref b22), .val (.int ((p1 &&& (2147483647 : Int32)) % (6 : Int32))), .val (.ref w29), .val (.int (0 : Int32)), .val (.int (1 : Int32))] [(.int (1 : Int32))])) _
    refine XS.iload X31.here hx rfl (hb hby at_135) rfl ?_
    show Steps p.tables e below (T31.setTop (mkF m 137 #[.val (.int p1), .val (.int p2), .val (.ref b3), .val (.ref b22), .val (.int ((p1 &&& (2147483647 : Int32)) % (6 : Int32))), .val (.ref w29), .val (.int (0 : Int32)), .val (.int (1 : Int32))] [(.int (1 : Int32)), (.int (1 : Int32))])) _
    refine XS.icmpNo X31.here hx rfl (hb hby at_137) rfl (teq (rfl : (1 : Int32) = (1 : Int32))).2 ?_
    show Steps p.tables e below (T31.setTop (mkF m 140 #[.val (.int p1), .val (.int p2), .val (.ref b3), .val (.ref b22), .val (.int ((p1 &&& (2147483647 : Int32)) % (6 : Int32))), .val (.ref w29), .val (.int (0 : Int32)), .val (.int (1 : Int32))] [])) _
    refine XS.iconst X31.here hx rfl (hb hby at_140) ?_
    show Steps p.tables e below (T31.setTop (mkF m 141 #[.val (.int p1), .val (.int p2), .val (.ref b3), .val (.ref b22), .val (.int ((p1 &&& (2147483647 : Int32)) % (6 : Int32))), .val (.ref w29), .val (.int (0 : Int32)), .val (.int (1 : Int32))] [(.int (1 : Int32))])) _
    refine XS.goto X31.here hx rfl (pc0 := 141) (pc' := 145) rfl (hb hby at_141) (by decide) (by decide) ?_
    show Steps p.tables e below (T31.setTop (mkF m 145 #[.val (.int p1), .val (.int p2), .val (.ref b3), .val (.ref b22), .val (.int ((p1 &&& (2147483647 : Int32)) % (6 : Int32))), .val (.ref w29), .val (.int (0 : Int32)), .val (.int (1 : Int32))] [(.int (1 : Int32))])) _
    exact retN X31 hx (t := .boolean) Bd.returns (by simp) (hb hby at_145) hr
  · show Q0 n0 _ _
    exact ⟨rfl, N31⟩
set_option maxRecDepth 65536 in
set_option maxHeartbeats 40000000 in
theorem rm0_10 (l : Launch) (Z : State) (a0 : Array Value) (hw : ∀ d ∈ tables_1, d.before a0 Z = true) (ws : List Jvm.Cond) (p1 : Int32) (p2 : Int32) (w4 : Addr) (w7 : Addr) (w10 : Addr) (w13 : Addr) (w16 : Addr) (w19 : Addr) (w29 : Addr) (w30 : Int32) (h0 : Heap) (n0 : Nat) (Z0 : n0 ≤ h0.size) (S_EQUAL : Sta Z h0 "com/example/quantorum/quantorum/algebra/Relation" "EQUAL" "Lcom/example/quantorum/quantorum/algebra/Relation;" (.ref w4)) (E_w4 : Exa Z h0 w4 "com/example/quantorum/quantorum/algebra/Relation") (S_NOT_EQUAL : Sta Z h0 "com/example/quantorum/quantorum/algebra/Relation" "NOT_EQUAL" "Lcom/example/quantorum/quantorum/algebra/Relation;" (.ref w7)) (E_w7 : Exa Z h0 w7 "com/example/quantorum/quantorum/algebra/Relation") (S_LESS : Sta Z h0 "com/example/quantorum/quantorum/algebra/Relation" "LESS" "Lcom/example/quantorum/quantorum/algebra/Relation;" (.ref w10)) (E_w10 : Exa Z h0 w10 "com/example/quantorum/quantorum/algebra/Relation") (S_LESS_OR_EQUAL : Sta Z h0 "com/example/quantorum/quantorum/algebra/Relation" "LESS_OR_EQUAL" "Lcom/example/quantorum/quantorum/algebra/Relation;" (.ref w13)) (E_w13 : Exa Z h0 w13 "com/example/quantorum/quantorum/algebra/Relation") (S_GREATER : Sta Z h0 "com/example/quantorum/quantorum/algebra/Relation" "GREATER" "Lcom/example/quantorum/quantorum/algebra/Relation;" (.ref w16)) (E_w16 : Exa Z h0 w16 "com/example/quantorum/quantorum/algebra/Relation") (S_GREATER_OR_EQUAL : Sta Z h0 "com/example/quantorum/quantorum/algebra/Relation" "GREATER_OR_EQUAL" "Lcom/example/quantorum/quantorum/algebra/Relation;" (.ref w19)) (E_w19 : Exa Z h0 w19 "com/example/quantorum/quantorum/algebra/Relation") (hlo84 : ¬ ((p1 &&& (2147483647 : Int32)) % (6 : Int32)) < 0 ∧ ((p1 &&& (2147483647 : Int32)) % (6 : Int32)) < (6 : Int32)) (hel84 : ([(.ref w4), (.ref w7), (.ref w10), (.ref w13), (.ref w16), (.ref w19)] : List Value).getD (((p1 &&& (2147483647 : Int32)) % (6 : Int32))).toNatClampNeg .null = (.ref w29)) (hlo113 : ¬ ((p1 &&& (2147483647 : Int32)) % (6 : Int32)) < 0 ∧ ((p1 &&& (2147483647 : Int32)) % (6 : Int32)) < (6 : Int32)) (hel113 : ([(.int (2 : Int32)), (.int (5 : Int32)), (.int (1 : Int32)), (.int (3 : Int32)), (.int (4 : Int32)), (.int (6 : Int32))] : List Value).getD (((p1 &&& (2147483647 : Int32)) % (6 : Int32))).toNatClampNeg (.int (0 : Int32)) = (.int w30)) (E_w29 : Exa Z h0 w29 "com/example/quantorum/quantorum/algebra/Relation") (hcall : ∀ h, Keep h0 h [] → n0 ≤ h.size → own_Call l Z w29 p2 (0 : Int32) h n0) (hc88 : ¬ (p2 < (0 : Int32))) (hc98 : p2 = (0 : Int32)) (hc119 : ((w30 >>> ((1 : Int32) &&& 31)) &&& (1 : Int32)) = (0 : Int32)) :
    MetFree l x (head1 (Jvm.Cond.code x code maxLocals ret :: ws) room_1) (fun a U => a = #[(.int p1), (.int p2)] ∧ Z.Warmed39 U.vm ∧ U.heap = h0) (fun _ _ _ _ _ => True) (fun _ U o U' => ∃ v L, o = .returned v ∧ Q0 n0 v L ∧ FrameEnd U o U' L room_1.cells room_1.slots) := by
  refine MetFree.of_bodySF (plainFor_of_name pn_0) hisR ?_
  intro p e s m args below meth c s₁ Bd hml0 hP hK
  obtain ⟨rfl, hZ, hh⟩ := hP
  have hx := Bd.exec
  have hby := Bd.bytes
  have hml : c.maxLocals = 8 := hml0
  have hown : s.vm.findClass "com/example/quantorum/quantorum/algebra/RelationHoldsPinLaw" = some m.cls := findClass_of_methodNamed Bd.named
  have hnm := (name_of_methodNamed Bd.named Bd.method).1
  have X0 : Stand p l e room_1 s m #[(.int p1), (.int p2)] below meth c s₁ [] 0 0 := Stand.of_body Bd
  have e0 : s₁.heap = h0 := by rw [← hh, Bd.state]; rfl
  have N0 := Fr.nil n0
  have pre0 : ∀ t, Steps p.tables e below (s₁.setTop (mkF m 0 #[.val (.int p1), .val (.int p2), .unset, .unset, .unset, .unset, .unset, .unset] [])) t → Steps p.tables e below (s₁.setTop (entryFrame m #[(.int p1), (.int p2)] maxLocals)) t := fun t k => castTop (ef_0 m p1 p2) k
  obtain ⟨T3, h3, k3, X3, e3, E3, A3, O3, st3⟩ := newR X0 hx hZ hown (hw _ (List.mem_of_getElem? (i := 0) rfl)) (hw _ (List.mem_of_getElem? (i := 1) rfl)) e0 (g := (mkF m 2 #[.val (.int p1), .val (.int p2), .unset, .unset, .unset, .unset, .unset, .unset] [(.int (6 : Int32))])) rfl (hb hby at_2) rfl (by decide) (cap := 6) (by decide) (by decide) (by decide) (by decide)
  obtain ⟨b3, g3⟩ : ∃ z, z = h0.size := ⟨_, rfl⟩      -- the fresh array's address
  rw [← g3] at A3 st3
  have V_b3 : Arv Z h3 b3 k3 (.object "com/example/quantorum/quantorum/algebra/Relation") (6 : Int32) [.null, .null, .null, .null, .null, .null] .null := (Arv.new A3 (by decide)).pad (pad_rep [] .null 6)
  have g_b3 : n0 ≤ b3 := Nat.le_trans Z0 (Nat.le_of_eq g3.symm)
  have sz_b3 : h0.size ≤ b3 := (Nat.le_trans (Keep.refl h0 []).1 (Nat.le_of_eq g3.symm))
  have K3 : Keep h0 h3 [] := (Keep.refl h0 []).ext E3
  obtain ⟨T5, X5, e5, st5⟩ := getS2 X3 hx hZ hown (host := "") (Or.inl (hw _ (List.mem_of_getElem? (i := 2) rfl))) Via.refl e3 (S_EQUAL.ext (own_ext K3)) (g := (mkF m 7 #[.val (.int p1), .val (.int p2), .unset, .unset, .unset, .unset, .unset, .unset] [(.int (0 : Int32)), (.ref b3), (.ref b3)])) rfl (hb hby at_7)
  obtain ⟨cl_b3_10, Ar_b3, q_b3, S_b3, N_b3, H_b3, G_b3⟩ := V_b3
  have hin10 : ¬ ((0 : Int32) < 0 ∨ cl_b3_10.slots.size ≤ ((0 : Int32)).toNatClampNeg) := inb_of S_b3 ⟨by decide, by decide⟩
  have Sto10 : Sto Z h3 b3 (.ref w4) := Sto.ofV Ar_b3 q_b3 O3 (Ins.self (E_w4.keep K3))
  obtain ⟨T6, h6, X6, e6, W6, st6⟩ := stR X5 hx hZ e5 Ar_b3 (j := (0 : Int32)) hin10 rfl Sto10 (g := (mkF m 10 #[.val (.int p1), .val (.int p2), .unset, .unset, .unset, .unset, .unset, .unset] [(.ref w4), (.int (0 : Int32)), (.ref b3), (.ref b3)])) rfl rfl (hb hby at_10)
  have V_b3_6 := Arv.set Ar_b3 q_b3 S_b3 N_b3 H_b3 G_b3 rfl W6 0 rfl (Nat.le_of_ble_eq_true rfl)
  have K6 : Keep h0 h6 [] := K3.wr W6 (Or.inr sz_b3)
  have N6 := Fr.snoc X6 N0 g_b3
  obtain ⟨T8, X8, e8, st8⟩ := getS2 X6 hx hZ hown (host := "") (Or.inl (hw _ (List.mem_of_getElem? (i := 6) rfl))) Via.refl e6 (S_NOT_EQUAL.ext (own_ext K6)) (g := (mkF m 13 #[.val (.int p1), .val (.int p2), .unset, .unset, .unset, .unset, .unset, .unset] [(.int (1 : Int32)), (.ref b3), (.ref b3)])) rfl (hb hby at_13)
  obtain ⟨cl_b3_16, Ar_b3, q_b3, S_b3, N_b3, H_b3, G_b3⟩ := V_b3_6
  have hin16 : ¬ ((1 : Int32) < 0 ∨ cl_b3_16.slots.size ≤ ((1 : Int32)).toNatClampNeg) := inb_of S_b3 ⟨by decide, by decide⟩
  have Sto16 : Sto Z h6 b3 (.ref w7) := Sto.ofV Ar_b3 q_b3 O3 (Ins.self (E_w7.keep K6))
  obtain ⟨T9, h9, X9, e9, W9, st9⟩ := stR X8 hx hZ e8 Ar_b3 (j := (1 : Int32)) hin16 rfl Sto16 (g := (mkF m 16 #[.val (.int p1), .val (.int p2), .unset, .unset, .unset, .unset, .unset, .unset] [(.ref w7), (.int (1 : Int32)), (.ref b3), (.ref b3)])) rfl rfl (hb hby at_16)
  have V_b3_9 := Arv.set Ar_b3 q_b3 S_b3 N_b3 H_b3 G_b3 rfl W9 1 rfl (Nat.le_of_ble_eq_true rfl)
  have K9 : Keep h0 h9 [] := K6.wr W9 (Or.inr sz_b3)
  have N9 := Fr.snoc X9 N6 g_b3
  obtain ⟨T11, X11, e11, st11⟩ := getS2 X9 hx hZ hown (host := "") (Or.inl (hw _ (List.mem_of_getElem? (i := 8) rfl))) Via.refl e9 (S_LESS.ext (own_ext K9)) (g := (mkF m 19 #[.val (.int p1), .val (.int p2), .unset, .unset, .unset, .unset, .unset, .unset] [(.int (2 : Int32)), (.ref b3), (.ref b3)])) rfl (hb hby at_19)
  obtain ⟨cl_b3_22, Ar_b3, q_b3, S_b3, N_b3, H_b3, G_b3⟩ := V_b3_9
  have hin22 : ¬ ((2 : Int32) < 0 ∨ cl_b3_22.slots.size ≤ ((2 : Int32)).toNatClampNeg) := inb_of S_b3 ⟨by decide, by decide⟩
  have Sto22 : Sto Z h9 b3 (.ref w10) := Sto.ofV Ar_b3 q_b3 O3 (Ins.self (E_w10.keep K9))
  obtain ⟨T12, h12, X12, e12, W12, st12⟩ := stR X11 hx hZ e11 Ar_b3 (j := (2 : Int32)) hin22 rfl Sto22 (g := (mkF m 22 #[.val (.int p1), .val (.int p2), .unset, .unset, .unset, .unset, .unset, .unset] [(.ref w10), (.int (2 : Int32)), (.ref b3), (.ref b3)])) rfl rfl (hb hby at_22)
  have V_b3_12 := Arv.set Ar_b3 q_b3 S_b3 N_b3 H_b3 G_b3 rfl W12 2 rfl (Nat.le_of_ble_eq_true rfl)
  have K12 : Keep h0 h12 [] := K9.wr W12 (Or.inr sz_b3)
  have N12 := Fr.snoc X12 N9 g_b3
  obtain ⟨T14, X14, e14, st14⟩ := getS2 X12 hx hZ hown (host := "") (Or.inl (hw _ (List.mem_of_getElem? (i := 10) rfl))) Via.refl e12 (S_LESS_OR_EQUAL.ext (own_ext K12)) (g := (mkF m 25 #[.val (.int p1), .val (.int p2), .unset, .unset, .unset, .unset, .unset, .unset] [(.int (3 : Int32)), (.ref b3), (.ref b3)])) rfl (hb hby at_25)
  obtain ⟨cl_b3_28, Ar_b3, q_b3, S_b3, N_b3, H_b3, G_b3⟩ := V_b3_12
  have hin28 : ¬ ((3 : Int32) < 0 ∨ cl_b3_28.slots.size ≤ ((3 : Int32)).toNatClampNeg) := inb_of S_b3 ⟨by decide, by decide⟩
  have Sto28 : Sto Z h12 b3 (.ref w13) := Sto.ofV Ar_b3 q_b3 O3 (Ins.self (E_w13.keep K12))
  obtain ⟨T15, h15, X15, e15, W15, st15⟩ := stR X14 hx hZ e14 Ar_b3 (j := (3 : Int32)) hin28 rfl Sto28 (g := (mkF m 28 #[.val (.int p1), .val (.int p2), .unset, .unset, .unset, .unset, .unset, .unset] [(.ref w13), (.int (3 : Int32)), (.ref b3), (.ref b3)])) rfl rfl (hb hby at_28)
  have V_b3_15 := Arv.set Ar_b3 q_b3 S_b3 N_b3 H_b3 G_b3 rfl W15 3 rfl (Nat.le_of_ble_eq_true rfl)
  have K15 : Keep h0 h15 [] := K12.wr W15 (Or.inr sz_b3)
  have N15 := Fr.snoc X15 N12 g_b3
  obtain ⟨T17, X17, e17, st17⟩ := getS2 X15 hx hZ hown (host := "") (Or.inl (hw _ (List.mem_of_getElem? (i := 12) rfl))) Via.refl e15 (S_GREATER.ext (own_ext K15)) (g := (mkF m 31 #[.val (.int p1), .val (.int p2), .unset, .unset, .unset, .unset, .unset, .unset] [(.int (4 : Int32)), (.ref b3), (.ref b3)])) rfl (hb hby at_31)
  obtain ⟨cl_b3_34, Ar_b3, q_b3, S_b3, N_b3, H_b3, G_b3⟩ := V_b3_15
  have hin34 : ¬ ((4 : Int32) < 0 ∨ cl_b3_34.slots.size ≤ ((4 : Int32)).toNatClampNeg) := inb_of S_b3 ⟨by decide, by decide⟩
  have Sto34 : Sto Z h15 b3 (.ref w16) := Sto.ofV Ar_b3 q_b3 O3 (Ins.self (E_w16.keep K15))
  obtain ⟨T18, h18, X18, e18, W18, st18⟩ := stR X17 hx hZ e17 Ar_b3 (j := (4 : Int32)) hin34 rfl Sto34 (g := (mkF m 34 #[.val (.int p1), .val (.int p2), .unset, .unset, .unset, .unset, .unset, .unset] [(.ref w16), (.int (4 : Int32)), (.ref b3), (.ref b3)])) rfl rfl (hb hby at_34)
  have V_b3_18 := Arv.set Ar_b3 q_b3 S_b3 N_b3 H_b3 G_b3 rfl W18 4 rfl (Nat.le_of_ble_eq_true rfl)
  have K18 : Keep h0 h18 [] := K15.wr W18 (Or.inr sz_b3)
  have N18 := Fr.snoc X18 N15 g_b3
  obtain ⟨T20, X20, e20, st20⟩ := getS2 X18 hx hZ hown (host := "") (Or.inl (hw _ (List.mem_of_getElem? (i := 14) rfl))) Via.refl e18 (S_GREATER_OR_EQUAL.ext (own_ext K18)) (g := (mkF m 37 #[.val (.int p1), .val (.int p2), .unset, .unset, .unset, .unset, .unset, .unset] [(.int (5 : Int32)), (.ref b3), (.ref b3)])) rfl (hb hby at_37)
  obtain ⟨cl_b3_40, Ar_b3, q_b3, S_b3, N_b3, H_b3, G_b3⟩ := V_b3_18
  have hin40 : ¬ ((5 : Int32) < 0 ∨ cl_b3_40.slots.size ≤ ((5 : Int32)).toNatClampNeg) := inb_of S_b3 ⟨by decide, by decide⟩
  have Sto40 : Sto Z h18 b3 (.ref w19) := Sto.ofV Ar_b3 q_b3 O3 (Ins.self (E_w19.keep K18))
  obtain ⟨T21, h21, X21, e21, W21, st21⟩ := stR X20 hx hZ e20 Ar_b3 (j := (5 : Int32)) hin40 rfl Sto40 (g := (mkF m 40 #[.val (.int p1), .val (.int p2), .unset, .unset, .unset, .unset, .unset, .unset] [(.ref w19), (.int (5 : Int32)), (.ref b3), (.ref b3)])) rfl rfl (hb hby at_40)
  have V_b3_21 := Arv.set Ar_b3 q_b3 S_b3 N_b3 H_b3 G_b3 rfl W21 5 rfl (Nat.le_of_ble_eq_true rfl)
  have K21 : Keep h0 h21 [] := K18.wr W21 (Or.inr sz_b3)
  have N21 := Fr.snoc X21 N18 g_b3
  obtain ⟨T22, h22, k22, X22, e22, E22, A22, st22⟩ := newP X21 hx hZ (hw _ (List.mem_of_getElem? (i := 16) rfl)) e21 (g := (mkF m 44 #[.val (.int p1), .val (.int p2), .val (.ref b3), .unset, .unset, .unset, .unset, .unset] [(.int (6 : Int32))])) rfl (hb hby at_44) rfl (by decide) (cap := 6) (by decide) (by decide) (by decide) (by decide)
  obtain ⟨b22, g22⟩ : ∃ z, z = h21.size := ⟨_, rfl⟩      -- the fresh array's address
  rw [← g22] at A22 st22
  have V_b22 : Arv Z h22 b22 k22 .int (6 : Int32) [(.int (0 : Int32)), (.int (0 : Int32)), (.int (0 : Int32)), (.int (0 : Int32)), (.int (0 : Int32)), (.int (0 : Int32))] (.int (0 : Int32)) := (Arv.new A22 (by decide)).pad (pad_rep [] (.int (0 : Int32)) 6)
  have g_b22 : n0 ≤ b22 := Nat.le_trans (Nat.le_trans (Nat.le_trans (Nat.le_trans (Nat.le_trans (Nat.le_trans (Nat.le_trans (Nat.le_trans Z0 E3.1) (Keep.of_wr W6).1) (Keep.of_wr W9).1) (Keep.of_wr W12).1) (Keep.of_wr W15).1) (Keep.of_wr W18).1) (Keep.of_wr W21).1) (Nat.le_of_eq g22.symm)
  have sz_b22 : h0.size ≤ b22 := (Nat.le_trans K21.1 (Nat.le_of_eq g22.symm))
  have K22 : Keep h0 h22 [] := K21.ext E22
  obtain ⟨cl_b22_49, Ar_b22, q_b22, S_b22, N_b22, H_b22, G_b22⟩ := V_b22      -- open the array's fact as it stands now (its cell, kind, length, elements)
  have hin49 : ¬ ((0 : Int32) < 0 ∨ cl_b22_49.slots.size ≤ ((0 : Int32)).toNatClampNeg) := inb_of S_b22 ⟨by decide, by decide⟩
  obtain ⟨T23, h23, X23, e23, W23, st23⟩ := stI X22 hx hZ e22 Ar_b22 (j := (0 : Int32)) hin49 (g := (mkF m 49 #[.val (.int p1), .val (.int p2), .val (.ref b3), .unset, .unset, .unset, .unset, .unset] [(.int (2 : Int32)), (.int (0 : Int32)), (.ref b22), (.ref b22)])) rfl rfl (hb hby at_49)
  have V_b22_23 := Arv.set Ar_b22 q_b22 S_b22 N_b22 H_b22 G_b22 rfl W23 0 rfl (Nat.le_of_ble_eq_true rfl)      -- the array as it stands now (the place must lie among its first values: Arv.pad with pad_rep lengthens them)
  have K23 : Keep h0 h23 [] := K22.wr W23 (Or.inr sz_b22)
  have N23 := Fr.snoc X23 N21 g_b22
  obtain ⟨cl_b22_53, Ar_b22, q_b22, S_b22, N_b22, H_b22, G_b22⟩ := V_b22_23      -- open the array's fact as it stands now (its cell, kind, length, elements)
  have hin53 : ¬ ((1 : Int32) < 0 ∨ cl_b22_53.slots.size ≤ ((1 : Int32)).toNatClampNeg) := inb_of S_b22 ⟨by decide, by decide⟩
  obtain ⟨T24, h24, X24, e24, W24, st24⟩ := stI X23 hx hZ e23 Ar_b22 (j := (1 : Int32)) hin53 (g := (mkF m 53 #[.val (.int p1), .val (.int p2), .val (.ref b3), .unset, .unset, .unset, .unset, .unset] [(.int (5 : Int32)), (.int (1 : Int32)), (.ref b22), (.ref b22)])) rfl rfl (hb hby at_53)
  have V_b22_24 := Arv.set Ar_b22 q_b22 S_b22 N_b22 H_b22 G_b22 rfl W24 1 rfl (Nat.le_of_ble_eq_true rfl)      -- the array as it stands now (the place must lie among its first values: Arv.pad with pad_rep lengthens them)
  have K24 : Keep h0 h24 [] := K23.wr W24 (Or.inr sz_b22)
  have N24 := Fr.snoc X24 N23 g_b22
  obtain ⟨cl_b22_57, Ar_b22, q_b22, S_b22, N_b22, H_b22, G_b22⟩ := V_b22_24      -- open the array's fact as it stands now (its cell, kind, length, elements)
  have hin57 : ¬ ((2 : Int32) < 0 ∨ cl_b22_57.slots.size ≤ ((2 : Int32)).toNatClampNeg) := inb_of S_b22 ⟨by decide, by decide⟩
  obtain ⟨T25, h25, X25, e25, W25, st25⟩ := stI X24 hx hZ e24 Ar_b22 (j := (2 : Int32)) hin57 (g := (mkF m 57 #[.val (.int p1), .val (.int p2), .val (.ref b3), .unset, .unset, .unset, .unset, .unset] [(.int (1 : Int32)), (.int (2 : Int32)), (.ref b22), (.ref b22)])) rfl rfl (hb hby at_57)
  have V_b22_25 := Arv.set Ar_b22 q_b22 S_b22 N_b22 H_b22 G_b22 rfl W25 2 rfl (Nat.le_of_ble_eq_true rfl)      -- the array as it stands now (the place must lie among its first values: Arv.pad with pad_rep lengthens them)
  have K25 : Keep h0 h25 [] := K24.wr W25 (Or.inr sz_b22)
  have N25 := Fr.snoc X25 N24 g_b22
  obtain ⟨cl_b22_61, Ar_b22, q_b22, S_b22, N_b22, H_b22, G_b22⟩ := V_b22_25      -- open the array's fact as it stands now (its cell, kind, length, elements)
  have hin61 : ¬ ((3 : Int32) < 0 ∨ cl_b22_61.slots.size ≤ ((3 : Int32)).toNatClampNeg) := inb_of S_b22 ⟨by decide, by decide⟩
  obtain ⟨T26, h26, X26, e26, W26, st26⟩ := stI X25 hx hZ e25 Ar_b22 (j := (3 : Int32)) hin61 (g := (mkF m 61 #[.val (.int p1), .val (.int p2), .val (.ref b3), .unset, .unset, .unset, .unset, .unset] [(.int (3 : Int32)), (.int (3 : Int32)), (.ref b22), (.ref b22)])) rfl rfl (hb hby at_61)
  have V_b22_26 := Arv.set Ar_b22 q_b22 S_b22 N_b22 H_b22 G_b22 rfl W26 3 rfl (Nat.le_of_ble_eq_true rfl)      -- the array as it stands now (the place must lie among its first values: Arv.pad with pad_rep lengthens them)
  have K26 : Keep h0 h26 [] := K25.wr W26 (Or.inr sz_b22)
  have N26 := Fr.snoc X26 N25 g_b22
  obtain ⟨cl_b22_65, Ar_b22, q_b22, S_b22, N_b22, H_b22, G_b22⟩ := V_b22_26      -- open the array's fact as it stands now (its cell, kind, length, elements)
  have hin65 : ¬ ((4 : Int32) < 0 ∨ cl_b22_65.slots.size ≤ ((4 : Int32)).toNatClampNeg) := inb_of S_b22 ⟨by decide, by decide⟩
  obtain ⟨T27, h27, X27, e27, W27, st27⟩ := stI X26 hx hZ e26 Ar_b22 (j := (4 : Int32)) hin65 (g := (mkF m 65 #[.val (.int p1), .val (.int p2), .val (.ref b3), .unset, .unset, .unset, .unset, .unset] [(.int (4 : Int32)), (.int (4 : Int32)), (.ref b22), (.ref b22)])) rfl rfl (hb hby at_65)
  have V_b22_27 := Arv.set Ar_b22 q_b22 S_b22 N_b22 H_b22 G_b22 rfl W27 4 rfl (Nat.le_of_ble_eq_true rfl)      -- the array as it stands now (the place must lie among its first values: Arv.pad with pad_rep lengthens them)
  have K27 : Keep h0 h27 [] := K26.wr W27 (Or.inr sz_b22)
  have N27 := Fr.snoc X27 N26 g_b22
  obtain ⟨cl_b22_70, Ar_b22, q_b22, S_b22, N_b22, H_b22, G_b22⟩ := V_b22_27      -- open the array's fact as it stands now (its cell, kind, length, elements)
  have hin70 : ¬ ((5 : Int32) < 0 ∨ cl_b22_70.slots.size ≤ ((5 : Int32)).toNatClampNeg) := inb_of S_b22 ⟨by decide, by decide⟩
  obtain ⟨T28, h28, X28, e28, W28, st28⟩ := stI X27 hx hZ e27 Ar_b22 (j := (5 : Int32)) hin70 (g := (mkF m 70 #[.val (.int p1), .val (.int p2), .val (.ref b3), .unset, .unset, .unset, .unset, .unset] [(.int (6 : Int32)), (.int (5 : Int32)), (.ref b22), (.ref b22)])) rfl rfl (hb hby at_70)
  have V_b22_28 := Arv.set Ar_b22 q_b22 S_b22 N_b22 H_b22 G_b22 rfl W28 5 rfl (Nat.le_of_ble_eq_true rfl)      -- the array as it stands now (the place must lie among its first values: Arv.pad with pad_rep lengthens them)
  have K28 : Keep h0 h28 [] := K27.wr W28 (Or.inr sz_b22)
  have N28 := Fr.snoc X28 N27 g_b22
  obtain ⟨cl_b3_84, Ar_b3_84, -, S_b3_84, -, H_b3_84, -⟩ := (((((((V_b3_21.ext E22).other W23 (Nat.ne_of_lt (Nat.lt_of_lt_of_le V_b3_21.lt (Nat.le_of_eq g22.symm)))).other W24 (Nat.ne_of_lt (Nat.lt_of_lt_of_le V_b3_21.lt (Nat.le_of_eq g22.symm)))).other W25 (Nat.ne_of_lt (Nat.lt_of_lt_of_le V_b3_21.lt (Nat.le_of_eq g22.symm)))).other W26 (Nat.ne_of_lt (Nat.lt_of_lt_of_le V_b3_21.lt (Nat.le_of_eq g22.symm)))).other W27 (Nat.ne_of_lt (Nat.lt_of_lt_of_le V_b3_21.lt (Nat.le_of_eq g22.symm)))).other W28 (Nat.ne_of_lt (Nat.lt_of_lt_of_le V_b3_21.lt (Nat.le_of_eq g22.symm))))
  have hin84 : ¬ (((p1 &&& (2147483647 : Int32)) % (6 : Int32)) < 0 ∨ cl_b3_84.slots.size ≤ (((p1 &&& (2147483647 : Int32)) % (6 : Int32))).toNatClampNeg) := inb_of S_b3_84 hlo84
  have hat84 : cl_b3_84.slots[(((p1 &&& (2147483647 : Int32)) % (6 : Int32))).toNatClampNeg]? = some (.ref w29) := (H_b3_84 _ (Nat.lt_of_not_le fun q => hin84 (Or.inr q))).trans (congrArg some hel84)
  obtain ⟨cl_b22_113, Ar_b22_113, -, S_b22_113, -, H_b22_113, -⟩ := V_b22_28
  have hin113 : ¬ (((p1 &&& (2147483647 : Int32)) % (6 : Int32)) < 0 ∨ cl_b22_113.slots.size ≤ (((p1 &&& (2147483647 : Int32)) % (6 : Int32))).toNatClampNeg) := inb_of S_b22_113 hlo113
  have hat113 : cl_b22_113.slots[(((p1 &&& (2147483647 : Int32)) % (6 : Int32))).toNatClampNeg]? = some (.int w30) := (H_b22_113 _ (Nat.lt_of_not_le fun q => hin113 (Or.inr q))).trans (congrArg some hel113)
  obtain ⟨cq31, kq31, q31a, q31b, q31c⟩ := isOf hZ e28 ((((((((((((((E_w29.ext E3).wr W6).wr W9).wr W12).wr W15).wr W18).wr W21).ext E22).wr W23).wr W24).wr W25).wr W26).wr W27).wr W28)
  obtain ⟨_, _, ⟨T31, L31, k31, n31⟩, -, X31, ⟨Lc31, hQ31, l31, y31, z31⟩, st31⟩ := X28.virtualBack hx (y := (⟨"com/example/quantorum/quantorum/algebra/Relation", "holds", "(I)Z"⟩ : MethodName)) (z := (⟨"com/example/quantorum/quantorum/algebra/Relation", "holds", "(I)Z"⟩ : MethodName)) hown (mvT hZ (hw _ (List.mem_of_getElem? (i := 18) rfl))) (mvT hZ (hw _ (List.mem_of_getElem? (i := 19) rfl))) (notFace_of_selects (args := #[]) (mvT hZ (hw _ (List.mem_of_getElem? (i := 21) rfl)))) (mvT hZ (hw _ (List.mem_of_getElem? (i := 21) rfl))) (mvT hZ (hw _ (List.mem_of_getElem? (i := 20) rfl))) (by decide) (backOf (W := 0) (hcall h28 K28 (Nat.le_trans Z0 K28.1)) hZ (hw _ (List.mem_of_getElem? (i := 22) rfl)) (hw _ (List.mem_of_getElem? (i := 3) rfl)) (by decide) (by decide)) q31a q31c (g := (mkF m 132 #[.val (.int p1), .val (.int p2), .val (.ref b3), .val (.ref b22), .val (.int ((p1 &&& (2147483647 : Int32)) % (6 : Int32))), .val (.ref w29), .val (.int (1 : Int32)), .val (.int (0 : Int32))] [(.int p2), (.ref w29)])) rfl (by rw [hml]; rfl) (Steps.refl _) (argsL := [(.int p2)]) (rest := []) (lenOf pd_0_0 rfl) rfl (by show 2 * 0 + _ ≤ _; exact Nat.le_of_eq rfl) (hb hby at_132) (fun _ _ => ⟨rfl, e28, (by decide : 2 + 0 ≤ _), (by decide : 12 + 0 ≤ _)⟩)
  dsimp only [Pt.U, Pt.locs, Pt.cells, Pt.slots] at X31 l31 y31 z31 st31 hQ31
  subst l31 y31 z31
  obtain ⟨rfl, N31q, e31⟩ := hQ31
  have N31 := Fr.app N28 N31q
  obtain ⟨fs, hr, hrun, hended, hW, hsame⟩ := X31.leave (v := some (.int (1 : Int32))) (fun h => by rw [Bd.returns] at h; cases h)
  refine ⟨_, _, pre0 _ ?_, hrun, hended, _, _, rfl, ?_, ⟨_, rfl⟩, hW, hsame.mono (by decide) (by decide)⟩
  · show Steps p.tables e below (s₁.setTop (mkF m 0 #[.val (.int p1), .val (.int p2), .unset, .unset, .unset, .unset, .unset, .unset] [])) _
    refine XS.bipush X0.here hx rfl (hb hby at_0) ?_
    show Steps p.tables e below (s₁.setTop (mkF m 2 #[.val (.int p1), .val (.int p2), .unset, .unset, .unset, .unset, .unset, .unset] [(.int (6 : Int32))])) _
    refine st3 _ ?_
    show Steps p.tables e below (T3.setTop (mkF m 5 #[.val (.int p1), .val (.int p2), .unset, .unset, .unset, .unset, .unset, .unset] [(.ref b3)])) _
    refine XS.dup X3.here hx rfl (hb hby at_5) rfl rfl ?_
    show Steps p.tables e below (T3.setTop (mkF m 6 #[.val (.int p1), .val (.int p2), .unset, .unset, .unset, .unset, .unset, .unset] [(.ref b3), (.ref b3)])) _
    refine XS.iconst X3.here hx rfl (hb hby at_6) ?_
    show Steps p.tables e below (T3.setTop (mkF m 7 #[.val (.int p1), .val (.int p2), .unset, .unset, .unset, .unset, .unset, .unset] [(.int (0 : Int32)), (.ref b3), (.ref b3)])) _
    refine st5 _ ?_
    show Steps p.tables e below (T5.setTop (mkF m 10 #[.val (.int p1), .val (.int p2), .unset, .unset, .unset, .unset, .unset, .unset] [(.ref w4), (.int (0 : Int32)), (.ref b3), (.ref b3)])) _
    refine st6 _ ?_
    show Steps p.tables e below (T6.setTop (mkF m 11 #[.val (.int p1), .val (.int p2), .unset, .unset, .unset, .unset, .unset, .unset] [(.ref b3)])) _
    refine XS.dup X6.here hx rfl (hb hby at_11) rfl rfl ?_
    show Steps p.tables e below (T6.setTop (mkF m 12 #[.val (.int p1), .val (.int p2), .unset, .unset, .unset, .unset, .unset, .unset] [(.ref b3), (.ref b3)])) _
    refine XS.iconst X6.here hx rfl (hb hby at_12) ?_
    show Steps p.tables e below (T6.setTop (mkF m 13 #[.val (.int p1), .val (.int p2), .unset, .unset, .unset, .unset, .unset, .unset] [(.int (1 : Int32)), (.ref b3), (.ref b3)])) _
    refine st8 _ ?_
    show Steps p.tables e below (T8.setTop (mkF m 16 #[.val (.int p1), .val (.int p2), .unset, .unset, .unset, .unset, .unset, .unset] [(.ref w7), (.int (1 : Int32)), (.ref b3), (.ref b3)])) _
    refine st9 _ ?_
    show Steps p.tables e below (T9.setTop (mkF m 17 #[.val (.int p1), .val (.int p2), .unset, .unset, .unset, .unset, .unset, .unset] [(.ref b3)])) _
    refine XS.dup X9.here hx rfl (hb hby at_17) rfl rfl ?_
    show Steps p.tables e below (T9.setTop (mkF m 18 #[.val (.int p1), .val (.int p2), .unset, .unset, .unset, .unset, .unset, .unset] [(.ref b3), (.ref b3)])) _
    refine XS.iconst X9.here hx rfl (hb hby at_18) ?_
    show Steps p.tables e below (T9.setTop (mkF m 19 #[.val (.int p1), .val (.int p2), .unset, .unset, .unset, .unset, .unset, .unset] [(.int (2 : Int32)), (.ref b3), (.ref b3)])) _
    refine st11 _ ?_
    show Steps p.tables e below (T11.setTop (mkF m 22 #[.val (.int p1), .val (.int p2), .unset, .unset, .unset, .unset, .unset, .unset] [(.ref w10), (.int (2 : Int32)), (.ref b3), (.ref b3)])) _
    refine st12 _ ?_
    show Steps p.tables e below (T12.setTop (mkF m 23 #[.val (.int p1), .val (.int p2), .unset, .unset, .unset, .unset, .unset, .unset] [(.ref b3)])) _
    refine XS.dup X12.here hx rfl (hb hby at_23) rfl rfl ?_
    show Steps p.tables e below (T12.setTop (mkF m 24 #[.val (.int p1), .val (.int p2), .unset, .unset, .unset, .unset, .unset, .unset] [(.ref b3), (.ref b3)])) _
    refine XS.iconst X12.here hx rfl (hb hby at_24) ?_
    show Steps p.tables e below (T12.setTop (mkF m 25 #[.val (.int p1), .val (.int p2), .unset, .unset, .unset, .unset, .unset, .unset] [(.int (3 : Int32)), (.ref b3), (.ref b3)])) _
    refine st14 _ ?_
    show Steps p.tables e below (T14.setTop (mkF m 28 #[.val (.int p1), .val (.int p2), .unset, .unset, .unset, .unset, .unset, .unset] [(.ref w13), (.int (3 : Int32)), (.ref b3), (.ref b3)])) _
    refine st15 _ ?_
    show Steps p.tables e below (T15.setTop (mkF m 29 #[.val (.int p1), .val (.int p2), .unset, .unset, .unset, .unset, .unset, .unset] [(.ref b3)])) _
    refine XS.dup X15.here hx rfl (hb hby at_29) rfl rfl ?_
    show Steps p.tables e below (T15.setTop (mkF m 30 #[.val (.int p1), .val (.int p2), .unset, .unset, .unset, .unset, .unset, .unset] [(.ref b3), (.ref b3)])) _
    refine XS.iconst X15.here hx rfl (hb hby at_30) ?_
    show Steps p.tables e below (T15.setTop (mkF m 31 #[.val (.int p1), .val (.int p2), .unset, .unset, .unset, .unset, .unset, .unset] [(.int (4 : Int32)), (.ref b3), (.ref b3)])) _
    refine st17 _ ?_
    show Steps p.tables e below (T17.setTop (mkF m 34 #[.val (.int p1), .val (.int p2), .unset, .unset, .unset, .unset, .unset, .unset] [(.ref w16), (.int (4 : Int32)), (.ref b3), (.ref b3)])) _
    refine st18 _ ?_
    show Steps p.tables e below (T18.setTop (mkF m 35 #[.val (.int p1), .val (.int p2), .unset, .unset, .unset, .unset, .unset, .unset] [(.ref b3)])) _
    refine XS.dup X18.here hx rfl (hb hby at_35) rfl rfl ?_
    show Steps p.tables e below (T18.setTop (mkF m 36 #[.val (.int p1), .val (.int p2), .unset, .unset, .unset, .unset, .unset, .unset] [(.ref b3), (.ref b3)])) _
    refine XS.iconst X18.here hx rfl (hb hby at_36) ?_
    show Steps p.tables e below (T18.setTop (mkF m 37 #[.val (.int p1), .val (.int p2), .unset, .unset, .unset, .unset, .unset, .unset] [(.int (5 : Int32)), (.ref b3), (.ref b3)])) _
    refine st20 _ ?_
    show Steps p.tables e below (T20.setTop (mkF m 40 #[.val (.int p1), .val (.int p2), .unset, .unset, .unset, .unset, .unset, .unset] [(.ref w19), (.int (5 : Int32)), (.ref b3), (.ref b3)])) _
    refine st21 _ ?_
    show Steps p.tables e below (T21.setTop (mkF m 41 #[.val (.int p1), .val (.int p2), .unset, .unset, .unset, .unset, .unset, .unset] [(.ref b3)])) _
    refine XS.astoreN X21.here hx rfl (hb hby at_41) rfl rfl (l' := #[.val (.int p1), .val (.int p2), .val (.ref b3), .unset, .unset, .unset, .unset, .unset]) rfl ?_
    show Steps p.tables e below (T21.setTop (mkF m 42 #[.val (.int p1), .val (.int p2), .val (.ref b3), .unset, .unset, .unset, .unset, .unset] [])) _
    refine XS.bipush X21.here hx rfl (hb hby at_42) ?_
    show Steps p.tables e below (T21.setTop (mkF m 44 #[.val (.int p1), .val (.int p2), .val (.ref b3), .unset, .unset, .unset, .unset, .unset] [(.int (6 : Int32))])) _
    refine st22 _ ?_
    show Steps p.tables e below (T22.setTop (mkF m 46 #[.val (.int p1), .val (.int p2), .val (.ref b3), .unset, .unset, .unset, .unset, .unset] [(.ref b22)])) _
    refine XS.dup X22.here hx rfl (hb hby at_46) rfl rfl ?_
    show Steps p.tables e below (T22.setTop (mkF m 47 #[.val (.int p1), .val (.int p2), .val (.ref b3), .unset, .unset, .unset, .unset, .unset] [(.ref b22), (.ref b22)])) _
    refine XS.iconst X22.here hx rfl (hb hby at_47) ?_
    show Steps p.tables e below (T22.setTop (mkF m 48 #[.val (.int p1), .val (.int p2), .val (.ref b3), .unset, .unset, .unset, .unset, .unset] [(.int (0 : Int32)), (.ref b22), (.ref b22)])) _
    refine XS.iconst X22.here hx rfl (hb hby at_48) ?_
    show Steps p.tables e below (T22.setTop (mkF m 49 #[.val (.int p1), .val (.int p2), .val (.ref b3), .unset, .unset, .unset, .unset, .unset] [(.int (2 : Int32)), (.int (0 : Int32)), (.ref b22), (.ref b22)])) _
    refine st23 _ ?_
    show Steps p.tables e below (T23.setTop (mkF m 50 #[.val (.int p1), .val (.int p2), .val (.ref b3), .unset, .unset, .unset, .unset, .unset] [(.ref b22)])) _
    refine XS.dup X23.here hx rfl (hb hby at_50) rfl rfl ?_
    show Steps p.tables e below (T23.setTop (mkF m 51 #[.val (.int p1), .val (.int p2), .val (.ref b3), .unset, .unset, .unset, .unset, .unset] [(.ref b22), (.ref b22)])) _
    refine XS.iconst X23.here hx rfl (hb hby at_51) ?_
    show Steps p.tables e below (T23.setTop (mkF m 52 #[.val (.int p1), .val (.int p2), .val (.ref b3), .unset, .unset, .unset, .unset, .unset] [(.int (1 : Int32)), (.ref b22), (.ref b22)])) _
    refine XS.iconst X23.here hx rfl (hb hby at_52) ?_
    show Steps p.tables e below (T23.setTop (mkF m 53 #[.val (.int p1), .val (.int p2), .val (.ref b3), .unset, .unset, .unset, .unset, .unset] [(.int (5 : Int32)), (.int (1 : Int32)), (.ref b22), (.ref b22)])) _
    refine st24 _ ?_
    show Steps p.tables e below (T24.setTop (mkF m 54 #[.val (.int p1), .val (.int p2), .val (.ref b3), .unset, .unset, .unset, .unset, .unset] [(.ref b22)])) _
    refine XS.dup X24.here hx rfl (hb hby at_54) rfl rfl ?_
    show Steps p.tables e below (T24.setTop (mkF m 55 #[.val (.int p1), .val (.int p2), .val (.ref b3), .unset, .unset, .unset, .unset, .unset] [(.ref b22), (.ref b22)])) _
    refine XS.iconst X24.here hx rfl (hb hby at_55) ?_
    show Steps p.tables e below (T24.setTop (mkF m 56 #[.val (.int p1), .val (.int p2), .val (.ref b3), .unset, .unset, .unset, .unset, .unset] [(.int (2 : Int32)), (.ref b22), (.ref b22)])) _
    refine XS.iconst X24.here hx rfl (hb hby at_56) ?_
    show Steps p.tables e below (T24.setTop (mkF m 57 #[.val (.int p1), .val (.int p2), .val (.ref b3), .unset, .unset, .unset, .unset, .unset] [(.int (1 : Int32)), (.int (2 : Int32)), (.ref b22), (.ref b22)])) _
    refine st25 _ ?_
    show Steps p.tables e below (T25.setTop (mkF m 58 #[.val (.int p1), .val (.int p2), .val (.ref b3), .unset, .unset, .unset, .unset, .unset] [(.ref b22)])) _
    refine XS.dup X25.here hx rfl (hb hby at_58) rfl rfl ?_
    show Steps p.tables e below (T25.setTop (mkF m 59 #[.val (.int p1), .val (.int p2), .val (.ref b3), .unset, .unset, .unset, .unset, .unset] [(.ref b22), (.ref b22)])) _
    refine XS.iconst X25.here hx rfl (hb hby at_59) ?_
    show Steps p.tables e below (T25.setTop (mkF m 60 #[.val (.int p1), .val (.int p2), .val (.ref b3), .unset, .unset, .unset, .unset, .unset] [(.int (3 : Int32)), (.ref b22), (.ref b22)])) _
    refine XS.iconst X25.here hx rfl (hb hby at_60) ?_
    show Steps p.tables e below (T25.setTop (mkF m 61 #[.val (.int p1), .val (.int p2), .val (.ref b3), .unset, .unset, .unset, .unset, .unset] [(.int (3 : Int32)), (.int (3 : Int32)), (.ref b22), (.ref b22)])) _
    refine st26 _ ?_
    show Steps p.tables e below (T26.setTop (mkF m 62 #[.val (.int p1), .val (.int p2), .val (.ref b3), .unset, .unset, .unset, .unset, .unset] [(.ref b22)])) _
    refine XS.dup X26.here hx rfl (hb hby at_62) rfl rfl ?_
    show Steps p.tables e below (T26.setTop (mkF m 63 #[.val (.int p1), .val (.int p2), .val (.ref b3), .unset, .unset, .unset, .unset, .unset] [(.ref b22), (.ref b22)])) _
    refine XS.iconst X26.here hx rfl (hb hby at_63) ?_
    show Steps p.tables e below (T26.setTop (mkF m 64 #[.val (.int p1), .val (.int p2), .val (.ref b3), .unset, .unset, .unset, .unset, .unset] [(.int (4 : Int32)), (.ref b22), (.ref b22)])) _
    refine XS.iconst X26.here hx rfl (hb hby at_64) ?_
    show Steps p.tables e below (T26.setTop (mkF m 65 #[.val (.int p1), .val (.int p2), .val (.ref b3), .unset, .unset, .unset, .unset, .unset] [(.int (4 : Int32)), (.int (4 : Int32)), (.ref b22), (.ref b22)])) _
    refine st27 _ ?_
    show Steps p.tables e below (T27.setTop (mkF m 66 #[.val (.int p1), .val (.int p2), .val (.ref b3), .unset, .unset, .unset, .unset, .unset] [(.ref b22)])) _
    refine XS.dup X27.here hx rfl (hb hby at_66) rfl rfl ?_
    show Steps p.tables e below (T27.setTop (mkF m 67 #[.val (.int p1), .val (.int p2), .val (.ref b3), .unset, .unset, .unset, .unset, .unset] [(.ref b22), (.ref b22)])) _
    refine XS.iconst X27.here hx rfl (hb hby at_67) ?_
    show Steps p.tables e below (T27.setTop (mkF m 68 #[.val (.int p1), .val (.int p2), .val (.ref b3), .unset, .unset, .unset, .unset, .unset] [(.int (5 : Int32)), (.ref b22), (.ref b22)])) _
    refine XS.bipush X27.here hx rfl (hb hby at_68) ?_
    show Steps p.tables e below (T27.setTop (mkF m 70 #[.val (.int p1), .val (.int p2), .val (.ref b3), .unset, .unset, .unset, .unset, .unset] [(.int (6 : Int32)), (.int (5 : Int32)), (.ref b22), (.ref b22)])) _
    refine st28 _ ?_
    show Steps p.tables e below (T28.setTop (mkF m 71 #[.val (.int p1), .val (.int p2), .val (.ref b3), .unset, .unset, .unset, .unset, .unset] [(.ref b22)])) _
    refine XS.astoreN X28.here hx rfl (hb hby at_71) rfl rfl (l' := #[.val (.int p1), .val (.int p2), .val (.ref b3), .val (.ref b22), .unset, .unset, .unset, .unset]) rfl ?_
    show Steps p.tables e below (T28.setTop (mkF m 72 #[.val (.int p1), .val (.int p2), .val (.ref b3), .val (.ref b22), .unset, .unset, .unset, .unset] [])) _
    refine XS.iloadN X28.here hx rfl (hb hby at_72) rfl ?_
    show Steps p.tables e below (T28.setTop (mkF m 73 #[.val (.int p1), .val (.int p2), .val (.ref b3), .val (.ref b22), .unset, .unset, .unset, .unset] [(.int p1)])) _
    refine X28.ldcInt hx hown (mvT hZ (hw _ (List.mem_of_getElem? (i := 17) rfl))) (g := (mkF m 73 #[.val (.int p1), .val (.int p2), .val (.ref b3), .val (.ref b22), .unset, .unset, .unset, .unset] [(.int p1)])) rfl (hb hby at_73) _ ?_
    show Steps p.tables e below (T28.setTop (mkF m 75 #[.val (.int p1), .val (.int p2), .val (.ref b3), .val (.ref b22), .unset, .unset, .unset, .unset] [(.int (2147483647 : Int32)), (.int p1)])) _
    refine XS.iand X28.here hx rfl (hb hby at_75) rfl ?_
    show Steps p.tables e below (T28.setTop (mkF m 76 #[.val (.int p1), .val (.int p2), .val (.ref b3), .val (.ref b22), .unset, .unset, .unset, .unset] [(.int (p1 &&& (2147483647 : Int32)))])) _
    refine XS.bipush X28.here hx rfl (hb hby at_76) ?_
    show Steps p.tables e below (T28.setTop (mkF m 78 #[.val (.int p1), .val (.int p2), .val (.ref b3), .val (.ref b22), .unset, .unset, .unset, .unset] [(.int (6 : Int32)), (.int (p1 &&& (2147483647 : Int32)))])) _
    refine iremM X28 hx rfl (hb hby at_78) rfl (by decide) ?_
    show Steps p.tables e below (T28.setTop (mkF m 79 #[.val (.int p1), .val (.int p2), .val (.ref b3), .val (.ref b22), .unset, .unset, .unset, .unset] [(.int ((p1 &&& (2147483647 : Int32)) % (6 : Int32)))])) _
    refine XS.istore X28.here hx rfl (hb hby at_79) rfl (l' := #[.val (.int p1), .val (.int p2), .val (.ref b3), .val (.ref b22), .val (.int ((p1 &&& (2147483647 : Int32)) % (6 : Int32))), .unset, .unset, .unset]) rfl ?_
    show Steps p.tables e below (T28.setTop (mkF m 81 #[.val (.int p1), .val (.int p2), .val (.ref b3), .val (.ref b22), .val (.int ((p1 &&& (2147483647 : Int32)) % (6 : Int32))), .unset, .unset, .unset] [])) _
    refine XS.aloadN X28.here hx rfl (hb hby at_81) rfl rfl ?_
    show Steps p.tables e below (T28.setTop (mkF m 82 #[.val (.int p1), .val (.int p2), .val (.ref b3), .val (.ref b22), .val (.int ((p1 &&& (2147483647 : Int32)) % (6 : Int32))), .unset, .unset, .unset] [(.ref b3)])) _
    refine XS.iload X28.here hx rfl (hb hby at_82) rfl ?_
    show Steps p.tables e below (T28.setTop (mkF m 84 #[.val (.int p1), .val (.int p2), .val (.ref b3), .val (.ref b22), .val (.int ((p1 &&& (2147483647 : Int32)) % (6 : Int32))), .unset, .unset, .unset] [(.int ((p1 &&& (2147483647 : Int32)) % (6 : Int32))), (.ref b3)])) _
    refine X28.aaload hx (j := ((p1 &&& (2147483647 : Int32)) % (6 : Int32))) (v := (.ref w29)) (by rw [e28]; exact Ar_b3_84.1) (State.isArrayOf_alike hZ.alike Ar_b3_84.2.1) rfl Ar_b3_84.2.2 hin84 hat84 (g := (mkF m 84 #[.val (.int p1), .val (.int p2), .val (.ref b3), .val (.ref b22), .val (.int ((p1 &&& (2147483647 : Int32)) % (6 : Int32))), .unset, .unset, .unset] [(.int ((p1 &&& (2147483647 : Int32)) % (6 : Int32))), (.ref b3)])) rfl rfl (hb hby at_84) _ ?_
    show Steps p.tables e below (T28.setTop (mkF m 85 #[.val (.int p1), .val (.int p2), .val (.ref b3), .val (.ref b22), .val (.int ((p1 &&& (2147483647 : Int32)) % (6 : Int32))), .unset, .unset, .unset] [(.ref w29)])) _
    refine XS.astore X28.here hx rfl (hb hby at_85) rfl rfl (l' := #[.val (.int p1), .val (.int p2), .val (.ref b3), .val (.ref b22), .val (.int ((p1 &&& (2147483647 : Int32)) % (6 : Int32))), .val (.ref w29), .unset, .unset]) rfl ?_
    show Steps p.tables e below (T28.setTop (mkF m 87 #[.val (.int p1), .val (.int p2), .val (.ref b3), .val (.ref b22), .val (.int ((p1 &&& (2147483647 : Int32)) % (6 : Int32))), .val (.ref w29), .unset, .unset] [])) _
    refine XS.iloadN X28.here hx rfl (hb hby at_87) rfl ?_
    show Steps p.tables e below (T28.setTop (mkF m 88 #[.val (.int p1), .val (.int p2), .val (.ref b3), .val (.ref b22), .val (.int ((p1 &&& (2147483647 : Int32)) % (6 : Int32))), .val (.ref w29), .unset, .unset] [(.int p2)])) _
    refine XS.ifYes X28.here hx rfl (pc0 := 88) (pc' := 97) rfl (hb hby at_88) rfl ((if0 _ _).trans (flt hc88).2.1) (by decide) (by decide) ?_
    show Steps p.tables e below (T28.setTop (mkF m 97 #[.val (.int p1), .val (.int p2), .val (.ref b3), .val (.ref b22), .val (.int ((p1 &&& (2147483647 : Int32)) % (6 : Int32))), .val (.ref w29), .unset, .unset] [])) _
    refine XS.iloadN X28.here hx rfl (hb hby at_97) rfl ?_
    show Steps p.tables e below (T28.setTop (mkF m 98 #[.val (.int p1), .val (.int p2), .val (.ref b3), .val (.ref b22), .val (.int ((p1 &&& (2147483647 : Int32)) % (6 : Int32))), .val (.ref w29), .unset, .unset] [(.int p2)])) _
    refine XS.ifNo X28.here hx rfl (hb hby at_98) rfl ((if0 _ _).trans (teq hc98).2) ?_
    show Steps p.tables e below (T28.setTop (mkF m 101 #[.val (.int p1), .val (.int p2), .val (.ref b3), .val (.ref b22), .val (.int ((p1 &&& (2147483647 : Int32)) % (6 : Int32))), .val (.ref w29), .unset, .unset] [])) _
    refine XS.iconst X28.here hx rfl (hb hby at_101) ?_
    show Steps p.tables e below (T28.setTop (mkF m 102 #[.val (.int p1), .val (.int p2), .val (.ref b3), .val (.ref b22), .val (.int ((p1 &&& (2147483647 : Int32)) % (6 : Int32))), .val (.ref w29), .unset, .unset] [(.int (1 : Int32))])) _
    refine XS.istore X28.here hx rfl (hb hby at_102) rfl (l' := #[.val (.int p1), .val (.int p2), .val (.ref b3), .val (.ref b22), .val (.int ((p1 &&& (2147483647 : Int32)) % (6 : Int32))), .val (.ref w29), .val (.int (1 : Int32)), .unset]) rfl ?_
    show Steps p.tables e below (T28.setTop (mkF m 104 #[.val (.int p1), .val (.int p2), .val (.ref b3), .val (.ref b22), .val (.int ((p1 &&& (2147483647 : Int32)) % (6 : Int32))), .val (.ref w29), .val (.int (1 : Int32)), .unset] [])) _
    refine XS.goto X28.here hx rfl (pc0 := 104) (pc' := 110) rfl (hb hby at_104) (by decide) (by decide) ?_
    show Steps p.tables e below (T28.setTop (mkF m 110 #[.val (.int p1), .val (.int p2), .val (.ref b3), .val (.ref b22), .val (.int ((p1 &&& (2147483647 : Int32)) % (6 : Int32))), .val (.ref w29), .val (.int (1 : Int32)), .unset] [])) _
    refine XS.aloadN X28.here hx rfl (hb hby at_110) rfl rfl ?_
    show Steps p.tables e below (T28.setTop (mkF m 111 #[.val (.int p1), .val (.int p2), .val (.ref b3), .val (.ref b22), .val (.int ((p1 &&& (2147483647 : Int32)) % (6 : Int32))), .val (.ref w29), .val (.int (1 : Int32)), .unset] [(.ref b22)])) _
    refine XS.iload X28.here hx rfl (hb hby at_111) rfl ?_
    show Steps p.tables e below (T28.setTop (mkF m 113 #[.val (.int p1), .val (.int p2), .val (.ref b3), .val (.ref b22), .val (.int ((p1 &&& (2147483647 : Int32)) % (6 : Int32))), .val (.ref w29), .val (.int (1 : Int32)), .unset] [(.int ((p1 &&& (2147483647 : Int32)) % (6 : Int32))), (.ref b22)])) _
    refine X28.iaload hx (j := ((p1 &&& (2147483647 : Int32)) % (6 : Int32))) (v := (.int w30)) (by rw [e28]; exact Ar_b22_113.1) (State.isArrayOf_alike hZ.alike Ar_b22_113.2.1) Ar_b22_113.2.2 hin113 hat113 (g := (mkF m 113 #[.val (.int p1), .val (.int p2), .val (.ref b3), .val (.ref b22), .val (.int ((p1 &&& (2147483647 : Int32)) % (6 : Int32))), .val (.ref w29), .val (.int (1 : Int32)), .unset] [(.int ((p1 &&& (2147483647 : Int32)) % (6 : Int32))), (.ref b22)])) rfl rfl (hb hby at_113) _ ?_
    show Steps p.tables e below (T28.setTop (mkF m 114 #[.val (.int p1), .val (.int p2), .val (.ref b3), .val (.ref b22), .val (.int ((p1 &&& (2147483647 : Int32)) % (6 : Int32))), .val (.ref w29), .val (.int (1 : Int32)), .unset] [(.int w30)])) _
    refine XS.iload X28.here hx rfl (hb hby at_114) rfl ?_
    show Steps p.tables e below (T28.setTop (mkF m 116 #[.val (.int p1), .val (.int p2), .val (.ref b3), .val (.ref b22), .val (.int ((p1 &&& (2147483647 : Int32)) % (6 : Int32))), .val (.ref w29), .val (.int (1 : Int32)), .unset] [(.int (1 : Int32)), (.int w30)])) _
    refine XS.ishr X28.here hx rfl (hb hby at_116) rfl ?_
    show Steps p.tables e below (T28.setTop (mkF m 117 #[.val (.int p1), .val (.int p2), .val (.ref b3), .val (.ref b22), .val (.int ((p1 &&& (2147483647 : Int32)) % (6 : Int32))), .val (.ref w29), .val (.int (1 : Int32)), .unset] [(.int (w30 >>> ((1 : Int32) &&& 31)))])) _
    refine XS.iconst X28.here hx rfl (hb hby at_117) ?_
    show Steps p.tables e below (T28.setTop (mkF m 118 #[.val (.int p1), .val (.int p2), .val (.ref b3), .val (.ref b22), .val (.int ((p1 &&& (2147483647 : Int32)) % (6 : Int32))), .val (.ref w29), .val (.int (1 : Int32)), .unset] [(.int (1 : Int32)), (.int (w30 >>> ((1 : Int32) &&& 31)))])) _
    refine XS.iand X28.here hx rfl (hb hby at_118) rfl ?_
    show Steps p.tables e below (T28.setTop (mkF m 119 #[.val (.int p1), .val (.int p2), .val (.ref b3), .val (.ref b22), .val (.int ((p1 &&& (2147483647 : Int32)) % (6 : Int32))), .val (.ref w29), .val (.int (1 : Int32)), .unset] [(.int ((w30 >>> ((1 : Int32) &&& 31)) &&& (1 : Int32)))])) _
    refine XS.ifYes X28.here hx rfl (pc0 := 119) (pc' := 126) rfl (hb hby at_119) rfl ((if0 _ _).trans (teq hc119).1) (by decide) (by decide) ?_
    show Steps p.tables e below (T28.setTop (mkF m 126 #[.val (.int p1), .val (.int p2), .val (.ref b3), .val (.ref b22), .val (.int ((p1 &&& (2147483647 : Int32)) % (6 : Int32))), .val (.ref w29), .val (.int (1 : Int32)), .unset] [])) _
    refine XS.iconst X28.here hx rfl (hb hby at_126) ?_
    show Steps p.tables e below (T28.setTop (mkF m 127 #[.val (.int p1), .val (.int p2), .val (.ref b3), .val (.ref b22), .val (.int ((p1 &&& (2147483647 : Int32)) % (6 : Int32))), .val (.ref w29), .val (.int (1 : Int32)), .unset] [(.int (0 : Int32))])) _
    refine XS.istore X28.here hx rfl (hb hby at_127) rfl (l' := #[.val (.int p1), .val (.int p2), .val (.ref b3), .val (.ref b22), .val (.int ((p1 &&& (2147483647 : Int32)) % (6 : Int32))), .val (.ref w29), .val (.int (1 : Int32)), .val (.int (0 : Int32))]) rfl ?_
    show Steps p.tables e below (T28.setTop (mkF m 129 #[.val (.int p1), .val (.int p2), .val (.ref b3), .val (.ref b22), .val (.int ((p1 &&& (2147483647 : Int32)) % (6 : Int32))), .val (.ref w29), .val (.int (1 : Int32)), .val (.int (0 : Int32))] [])) _
    refine XS.aload X28.here hx rfl (hb hby at_129) rfl rfl ?_
    show Steps p.tables e below (T28.setTop (mkF m 131 #[.val (.int p1), .val (.int p2), .val (.ref b3), .val (.ref b22), .val (.int ((p1 &&& (2147483647 : Int32)) % (6 : Int32))), .val (.ref w29), .val (.int (1 : Int32)), .val (.int (0 : Int32))] [(.ref w29)])) _
    refine XS.iloadN X28.here hx rfl (hb hby at_131) rfl ?_
    show Steps p.tables e below (T28.setTop (mkF m 132 #[.val (.int p1), .val (.int p2), .val (.ref b3), .val (.ref b22), .val (.int ((p1 &&& (2147483647 : Int32)) % (6 : Int32))), .val (.ref w29), .val (.int (1 : Int32)), .val (.int (0 : Int32))] [(.int p2), (.ref w29)])) _
    refine st31.trans ?_
    show Steps p.tables e below (T31.setTop (mkF m 135 #[.val (.int p1), .val (.int p2), .val (.ref b3), .val (.ref b22), .val (.int ((p1 &&& (2147483647 : Int32)) % (6 : Int32))), .val (.ref w29), .val (.int (1 : Int32)), .val (.int (0 : Int32))] [(.int (0 : Int32))])) _
    refine XS.iload X31.here hx rfl (hb hby at_135) rfl ?_
    show Steps p.tables e below (T31.setTop (mkF m 137 #[.val (.int p1), .val (.int p2), .val (.ref b3), .val (.ref b22), .val (.int ((p1 &&& (2147483647 : Int32)) % (6 : Int32))), .val (.ref w29), .val (.int (1 : Int32)), .val (.int (0 : Int32))] [(.int (0 : Int32)), (.int (0 : Int32))])) _
    refine XS.icmpNo X31.here hx rfl (hb hby at_137) rfl (teq (rfl : (0 : Int32) = (0 : Int32))).2 ?_
    show Steps p.tables e below (T31.setTop (mkF m 140 #[.val (.int p1), .val (.int p2), .val (.ref b3), .val (.ref b22), .val (.int ((p1 &&& (2147483647 : Int32)) % (6 : Int32))), .val (.ref w29), .val (.int (1 : Int32)), .val (.int (0 : Int32))] [])) _
    refine XS.iconst X31.here hx rfl (hb hby at_140) ?_
    show Steps p.tables e below (T31.setTop (mkF m 141 #[.val (.int p1), .val (.int p2), .val (.ref b3), .val (.ref b22), .val (.int ((p1 &&& (2147483647 : Int32)) % (6 : Int32))), .val (.ref w29), .val (.int (1 : Int32)), .val (.int (0 : Int32))] [(.int (1 : Int32))])) _
    refine XS.goto X31.here hx rfl (pc0 := 141) (pc' := 145) rfl (hb hby at_141) (by decide) (by decide) ?_
    show Steps p.tables e below (T31.setTop (mkF m 145 #[.val (.int p1), .val (.int p2), .val (.ref b3), .val (.ref b22), .val (.int ((p1 &&& (2147483647 : Int32)) % (6 : Int32))), .val (.ref w29), .val (.int (1 : Int32)), .val (.int (0 : Int32))] [(.int (1 : Int32))])) _
    exact retN X31 hx (t := .boolean) Bd.returns (by simp) (hb hby at_145) hr
  · show Q0 n0 _ _
    exact ⟨rfl, N31⟩
set_option maxRecDepth 65536 in
set_option maxHeartbeats 40000000 in
theorem rm0_11 (l : Launch) (Z : State) (a0 : Array Value) (hw : ∀ d ∈ tables_1, d.before a0 Z = true) (ws : List Jvm.Cond) (p1 : Int32) (p2 : Int32) (w4 : Addr) (w7 : Addr) (w10 : Addr) (w13 : Addr) (w16 : Addr) (w19 : Addr) (w29 : Addr) (w30 : Int32) (h0 : Heap) (n0 : Nat) (Z0 : n0 ≤ h0.size) (S_EQUAL : Sta Z h0 "com/example/quantorum/quantorum/algebra/Relation" "EQUAL" "Lcom/example/quantorum/quantorum/algebra/Relation;" (.ref w4)) (E_w4 : Exa Z h0 w4 "com/example/quantorum/quantorum/algebra/Relation") (S_NOT_EQUAL : Sta Z h0 "com/example/quantorum/quantorum/algebra/Relation" "NOT_EQUAL" "Lcom/example/quantorum/quantorum/algebra/Relation;" (.ref w7)) (E_w7 : Exa Z h0 w7 "com/example/quantorum/quantorum/algebra/Relation") (S_LESS : Sta Z h0 "com/example/quantorum/quantorum/algebra/Relation" "LESS" "Lcom/example/quantorum/quantorum/algebra/Relation;" (.ref w10)) (E_w10 : Exa Z h0 w10 "com/example/quantorum/quantorum/algebra/Relation") (S_LESS_OR_EQUAL : Sta Z h0 "com/example/quantorum/quantorum/algebra/Relation" "LESS_OR_EQUAL" "Lcom/example/quantorum/quantorum/algebra/Relation;" (.ref w13)) (E_w13 : Exa Z h0 w13 "com/example/quantorum/quantorum/algebra/Relation") (S_GREATER : Sta Z h0 "com/example/quantorum/quantorum/algebra/Relation" "GREATER" "Lcom/example/quantorum/quantorum/algebra/Relation;" (.ref w16)) (E_w16 : Exa Z h0 w16 "com/example/quantorum/quantorum/algebra/Relation") (S_GREATER_OR_EQUAL : Sta Z h0 "com/example/quantorum/quantorum/algebra/Relation" "GREATER_OR_EQUAL" "Lcom/example/quantorum/quantorum/algebra/Relation;" (.ref w19)) (E_w19 : Exa Z h0 w19 "com/example/quantorum/quantorum/algebra/Relation") (hlo84 : ¬ ((p1 &&& (2147483647 : Int32)) % (6 : Int32)) < 0 ∧ ((p1 &&& (2147483647 : Int32)) % (6 : Int32)) < (6 : Int32)) (hel84 : ([(.ref w4), (.ref w7), (.ref w10), (.ref w13), (.ref w16), (.ref w19)] : List Value).getD (((p1 &&& (2147483647 : Int32)) % (6 : Int32))).toNatClampNeg .null = (.ref w29)) (hlo113 : ¬ ((p1 &&& (2147483647 : Int32)) % (6 : Int32)) < 0 ∧ ((p1 &&& (2147483647 : Int32)) % (6 : Int32)) < (6 : Int32)) (hel113 : ([(.int (2 : Int32)), (.int (5 : Int32)), (.int (1 : Int32)), (.int (3 : Int32)), (.int (4 : Int32)), (.int (6 : Int32))] : List Value).getD (((p1 &&& (2147483647 : Int32)) % (6 : Int32))).toNatClampNeg (.int (0 : Int32)) = (.int w30)) (E_w29 : Exa Z h0 w29 "com/example/quantorum/quantorum/algebra/Relation") (hcall : ∀ h, Keep h0 h [] → n0 ≤ h.size → own_Call l Z w29 p2 (1 : Int32) h n0) (hc88 : ¬ (p2 < (0 : Int32))) (hc98 : p2 = (0 : Int32)) (hc119 : ¬ (((w30 >>> ((1 : Int32) &&& 31)) &&& (1 : Int32)) = (0 : Int32))) :
    MetFree l x (head1 (Jvm.Cond.code x code maxLocals ret :: ws) room_1) (fun a U => a = #[(.int p1), (.int p2)] ∧ Z.Warmed39 U.vm ∧ U.heap = h0) (fun _ _ _ _ _ => True) (fun _ U o U' => ∃ v L, o = .returned v ∧ Q0 n0 v L ∧ FrameEnd U o U' L room_1.cells room_1.slots) := by
  refine MetFree.of_bodySF (plainFor_of_name pn_0) hisR ?_
  intro p e s m args below meth c s₁ Bd hml0 hP hK
  obtain ⟨rfl, hZ, hh⟩ := hP
  have hx := Bd.exec
  have hby := Bd.bytes
  have hml : c.maxLocals = 8 := hml0
  have hown : s.vm.findClass "com/example/quantorum/quantorum/algebra/RelationHoldsPinLaw" = some m.cls := findClass_of_methodNamed Bd.named
  have hnm := (name_of_methodNamed Bd.named Bd.method).1
  have X0 : Stand p l e room_1 s m #[(.int p1), (.int p2)] below meth c s₁ [] 0 0 := Stand.of_body Bd
  have e0 : s₁.heap = h0 := by rw [← hh, Bd.state]; rfl
  have N0 := Fr.nil n0
  have pre0 : ∀ t, Steps p.tables e below (s₁.setTop (mkF m 0 #[.val (.int p1), .val (.int p2), .unset, .unset, .unset, .unset, .unset, .unset] [])) t → Steps p.tables e below (s₁.setTop (entryFrame m #[(.int p1), (.int p2)] maxLocals)) t := fun t k => castTop (ef_0 m p1 p2) k
  obtain ⟨T3, h3, k3, X3, e3, E3, A3, O3, st3⟩ := newR X0 hx hZ hown (hw _ (List.mem_of_getElem? (i := 0) rfl)) (hw _ (List.mem_of_getElem? (i := 1) rfl)) e0 (g := (mkF m 2 #[.val (.int p1), .val (.int p2), .unset, .unset, .unset, .unset, .unset, .unset] [(.int (6 : Int32))])) rfl (hb hby at_2) rfl (by decide) (cap := 6) (by decide) (by decide) (by decide) (by decide)
  obtain ⟨b3, g3⟩ : ∃ z, z = h0.size := ⟨_, rfl⟩      -- the fresh array's address
  rw [← g3] at A3 st3
  have V_b3 : Arv Z h3 b3 k3 (.object "com/example/quantorum/quantorum/algebra/Relation") (6 : Int32) [.null, .null, .null, .null, .null, .null] .null := (Arv.new A3 (by decide)).pad (pad_rep [] .null 6)
  have g_b3 : n0 ≤ b3 := Nat.le_trans Z0 (Nat.le_of_eq g3.symm)
  have sz_b3 : h0.size ≤ b3 := (Nat.le_trans (Keep.refl h0 []).1 (Nat.le_of_eq g3.symm))
  have K3 : Keep h0 h3 [] := (Keep.refl h0 []).ext E3
  obtain ⟨T5, X5, e5, st5⟩ := getS2 X3 hx hZ hown (host := "") (Or.inl (hw _ (List.mem_of_getElem? (i := 2) rfl))) Via.refl e3 (S_EQUAL.ext (own_ext K3)) (g := (mkF m 7 #[.val (.int p1), .val (.int p2), .unset, .unset, .unset, .unset, .unset, .unset] [(.int (0 : Int32)), (.ref b3), (.ref b3)])) rfl (hb hby at_7)
  obtain ⟨cl_b3_10, Ar_b3, q_b3, S_b3, N_b3, H_b3, G_b3⟩ := V_b3
  have hin10 : ¬ ((0 : Int32) < 0 ∨ cl_b3_10.slots.size ≤ ((0 : Int32)).toNatClampNeg) := inb_of S_b3 ⟨by decide, by decide⟩
  have Sto10 : Sto Z h3 b3 (.ref w4) := Sto.ofV Ar_b3 q_b3 O3 (Ins.self (E_w4.keep K3))
  obtain ⟨T6, h6, X6, e6, W6, st6⟩ := stR X5 hx hZ e5 Ar_b3 (j := (0 : Int32)) hin10 rfl Sto10 (g := (mkF m 10 #[.val (.int p1), .val (.int p2), .unset, .unset, .unset, .unset, .unset, .unset] [(.ref w4), (.int (0 : Int32)), (.ref b3), (.ref b3)])) rfl rfl (hb hby at_10)
  have V_b3_6 := Arv.set Ar_b3 q_b3 S_b3 N_b3 H_b3 G_b3 rfl W6 0 rfl (Nat.le_of_ble_eq_true rfl)
  have K6 : Keep h0 h6 [] := K3.wr W6 (Or.inr sz_b3)
  have N6 := Fr.snoc X6 N0 g_b3
  obtain ⟨T8, X8, e8, st8⟩ := getS2 X6 hx hZ hown (host := "") (Or.inl (hw _ (List.mem_of_getElem? (i := 6) rfl))) Via.refl e6 (S_NOT_EQUAL.ext (own_ext K6)) (g := (mkF m 13 #[.val (.int p1), .val (.int p2), .unset, .unset, .unset, .unset, .unset, .unset] [(.int (1 : Int32)), (.ref b3), (.ref b3)])) rfl (hb hby at_13)
  obtain ⟨cl_b3_16, Ar_b3, q_b3, S_b3, N_b3, H_b3, G_b3⟩ := V_b3_6
  have hin16 : ¬ ((1 : Int32) < 0 ∨ cl_b3_16.slots.size ≤ ((1 : Int32)).toNatClampNeg) := inb_of S_b3 ⟨by decide, by decide⟩
  have Sto16 : Sto Z h6 b3 (.ref w7) := Sto.ofV Ar_b3 q_b3 O3 (Ins.self (E_w7.keep K6))
  obtain ⟨T9, h9, X9, e9, W9, st9⟩ := stR X8 hx hZ e8 Ar_b3 (j := (1 : Int32)) hin16 rfl Sto16 (g := (mkF m 16 #[.val (.int p1), .val (.int p2), .unset, .unset, .unset, .unset, .unset, .unset] [(.ref w7), (.int (1 : Int32)), (.ref b3), (.ref b3)])) rfl rfl (hb hby at_16)
  have V_b3_9 := Arv.set Ar_b3 q_b3 S_b3 N_b3 H_b3 G_b3 rfl W9 1 rfl (Nat.le_of_ble_eq_true rfl)
  have K9 : Keep h0 h9 [] := K6.wr W9 (Or.inr sz_b3)
  have N9 := Fr.snoc X9 N6 g_b3
  obtain ⟨T11, X11, e11, st11⟩ := getS2 X9 hx hZ hown (host := "") (Or.inl (hw _ (List.mem_of_getElem? (i := 8) rfl))) Via.refl e9 (S_LESS.ext (own_ext K9)) (g := (mkF m 19 #[.val (.int p1), .val (.int p2), .unset, .unset, .unset, .unset, .unset, .unset] [(.int (2 : Int32)), (.ref b3), (.ref b3)])) rfl (hb hby at_19)
  obtain ⟨cl_b3_22, Ar_b3, q_b3, S_b3, N_b3, H_b3, G_b3⟩ := V_b3_9
  have hin22 : ¬ ((2 : Int32) < 0 ∨ cl_b3_22.slots.size ≤ ((2 : Int32)).toNatClampNeg) := inb_of S_b3 ⟨by decide, by decide⟩
  have Sto22 : Sto Z h9 b3 (.ref w10) := Sto.ofV Ar_b3 q_b3 O3 (Ins.self (E_w10.keep K9))
  obtain ⟨T12, h12, X12, e12, W12, st12⟩ := stR X11 hx hZ e11 Ar_b3 (j := (2 : Int32)) hin22 rfl Sto22 (g := (mkF m 22 #[.val (.int p1), .val (.int p2), .unset, .unset, .unset, .unset, .unset, .unset] [(.ref w10), (.int (2 : Int32)), (.ref b3), (.ref b3)])) rfl rfl (hb hby at_22)
  have V_b3_12 := Arv.set Ar_b3 q_b3 S_b3 N_b3 H_b3 G_b3 rfl W12 2 rfl (Nat.le_of_ble_eq_true rfl)
  have K12 : Keep h0 h12 [] := K9.wr W12 (Or.inr sz_b3)
  have N12 := Fr.snoc X12 N9 g_b3
  obtain ⟨T14, X14, e14, st14⟩ := getS2 X12 hx hZ hown (host := "") (Or.inl (hw _ (List.mem_of_getElem? (i := 10) rfl))) Via.refl e12 (S_LESS_OR_EQUAL.ext (own_ext K12)) (g := (mkF m 25 #[.val (.int p1), .val (.int p2), .unset, .unset, .unset, .unset, .unset, .unset] [(.int (3 : Int32)), (.ref b3), (.ref b3)])) rfl (hb hby at_25)
  obtain ⟨cl_b3_28, Ar_b3, q_b3, S_b3, N_b3, H_b3, G_b3⟩ := V_b3_12
  have hin28 : ¬ ((3 : Int32) < 0 ∨ cl_b3_28.slots.size ≤ ((3 : Int32)).toNatClampNeg) := inb_of S_b3 ⟨by decide, by decide⟩
  have Sto28 : Sto Z h12 b3 (.ref w13) := Sto.ofV Ar_b3 q_b3 O3 (Ins.self (E_w13.keep K12))
  obtain ⟨T15, h15, X15, e15, W15, st15⟩ := stR X14 hx hZ e14 Ar_b3 (j := (3 : Int32)) hin28 rfl Sto28 (g := (mkF m 28 #[.val (.int p1), .val (.int p2), .unset, .unset, .unset, .unset, .unset, .unset] [(.ref w13), (.int (3 : Int32)), (.ref b3), (.ref b3)])) rfl rfl (hb hby at_28)
  have V_b3_15 := Arv.set Ar_b3 q_b3 S_b3 N_b3 H_b3 G_b3 rfl W15 3 rfl (Nat.le_of_ble_eq_true rfl)
  have K15 : Keep h0 h15 [] := K12.wr W15 (Or.inr sz_b3)
  have N15 := Fr.snoc X15 N12 g_b3
  obtain ⟨T17, X17, e17, st17⟩ := getS2 X15 hx hZ hown (host := "") (Or.inl (hw _ (List.mem_of_getElem? (i := 12) rfl))) Via.refl e15 (S_GREATER.ext (own_ext K15)) (g := (mkF m 31 #[.val (.int p1), .val (.int p2), .unset, .unset, .unset, .unset, .unset, .unset] [(.int (4 : Int32)), (.ref b3), (.ref b3)])) rfl (hb hby at_31)
  obtain ⟨cl_b3_34, Ar_b3, q_b3, S_b3, N_b3, H_b3, G_b3⟩ := V_b3_15
  have hin34 : ¬ ((4 : Int32) < 0 ∨ cl_b3_34.slots.size ≤ ((4 : Int32)).toNatClampNeg) := inb_of S_b3 ⟨by decide, by decide⟩
  have Sto34 : Sto Z h15 b3 (.ref w16) := Sto.ofV Ar_b3 q_b3 O3 (Ins.self (E_w16.keep K15))
  obtain ⟨T18, h18, X18, e18, W18, st18⟩ := stR X17 hx hZ e17 Ar_b3 (j := (4 : Int32)) hin34 rfl Sto34 (g := (mkF m 34 #[.val (.int p1), .val (.int p2), .unset, .unset, .unset, .unset, .unset, .unset] [(.ref w16), (.int (4 : Int32)), (.ref b3), (.ref b3)])) rfl rfl (hb hby at_34)
  have V_b3_18 := Arv.set Ar_b3 q_b3 S_b3 N_b3 H_b3 G_b3 rfl W18 4 rfl (Nat.le_of_ble_eq_true rfl)
  have K18 : Keep h0 h18 [] := K15.wr W18 (Or.inr sz_b3)
  have N18 := Fr.snoc X18 N15 g_b3
  obtain ⟨T20, X20, e20, st20⟩ := getS2 X18 hx hZ hown (host := "") (Or.inl (hw _ (List.mem_of_getElem? (i := 14) rfl))) Via.refl e18 (S_GREATER_OR_EQUAL.ext (own_ext K18)) (g := (mkF m 37 #[.val (.int p1), .val (.int p2), .unset, .unset, .unset, .unset, .unset, .unset] [(.int (5 : Int32)), (.ref b3), (.ref b3)])) rfl (hb hby at_37)
  obtain ⟨cl_b3_40, Ar_b3, q_b3, S_b3, N_b3, H_b3, G_b3⟩ := V_b3_18
  have hin40 : ¬ ((5 : Int32) < 0 ∨ cl_b3_40.slots.size ≤ ((5 : Int32)).toNatClampNeg) := inb_of S_b3 ⟨by decide, by decide⟩
  have Sto40 : Sto Z h18 b3 (.ref w19) := Sto.ofV Ar_b3 q_b3 O3 (Ins.self (E_w19.keep K18))
  obtain ⟨T21, h21, X21, e21, W21, st21⟩ := stR X20 hx hZ e20 Ar_b3 (j := (5 : Int32)) hin40 rfl Sto40 (g := (mkF m 40 #[.val (.int p1), .val (.int p2), .unset, .unset, .unset, .unset, .unset, .unset] [(.ref w19), (.int (5 : Int32)), (.ref b3), (.ref b3)])) rfl rfl (hb hby at_40)
  have V_b3_21 := Arv.set Ar_b3 q_b3 S_b3 N_b3 H_b3 G_b3 rfl W21 5 rfl (Nat.le_of_ble_eq_true rfl)
  have K21 : Keep h0 h21 [] := K18.wr W21 (Or.inr sz_b3)
  have N21 := Fr.snoc X21 N18 g_b3
  obtain ⟨T22, h22, k22, X22, e22, E22, A22, st22⟩ := newP X21 hx hZ (hw _ (List.mem_of_getElem? (i := 16) rfl)) e21 (g := (mkF m 44 #[.val (.int p1), .val (.int p2), .val (.ref b3), .unset, .unset, .unset, .unset, .unset] [(.int (6 : Int32))])) rfl (hb hby at_44) rfl (by decide) (cap := 6) (by decide) (by decide) (by decide) (by decide)
  obtain ⟨b22, g22⟩ : ∃ z, z = h21.size := ⟨_, rfl⟩      -- the fresh array's address
  rw [← g22] at A22 st22
  have V_b22 : Arv Z h22 b22 k22 .int (6 : Int32) [(.int (0 : Int32)), (.int (0 : Int32)), (.int (0 : Int32)), (.int (0 : Int32)), (.int (0 : Int32)), (.int (0 : Int32))] (.int (0 : Int32)) := (Arv.new A22 (by decide)).pad (pad_rep [] (.int (0 : Int32)) 6)
  have g_b22 : n0 ≤ b22 := Nat.le_trans (Nat.le_trans (Nat.le_trans (Nat.le_trans (Nat.le_trans (Nat.le_trans (Nat.le_trans (Nat.le_trans Z0 E3.1) (Keep.of_wr W6).1) (Keep.of_wr W9).1) (Keep.of_wr W12).1) (Keep.of_wr W15).1) (Keep.of_wr W18).1) (Keep.of_wr W21).1) (Nat.le_of_eq g22.symm)
  have sz_b22 : h0.size ≤ b22 := (Nat.le_trans K21.1 (Nat.le_of_eq g22.symm))
  have K22 : Keep h0 h22 [] := K21.ext E22
  obtain ⟨cl_b22_49, Ar_b22, q_b22, S_b22, N_b22, H_b22, G_b22⟩ := V_b22      -- open the array's fact as it stands now (its cell, kind, length, elements)
  have hin49 : ¬ ((0 : Int32) < 0 ∨ cl_b22_49.slots.size ≤ ((0 : Int32)).toNatClampNeg) := inb_of S_b22 ⟨by decide, by decide⟩
  obtain ⟨T23, h23, X23, e23, W23, st23⟩ := stI X22 hx hZ e22 Ar_b22 (j := (0 : Int32)) hin49 (g := (mkF m 49 #[.val (.int p1), .val (.int p2), .val (.ref b3), .unset, .unset, .unset, .unset, .unset] [(.int (2 : Int32)), (.int (0 : Int32)), (.ref b22), (.ref b22)])) rfl rfl (hb hby at_49)
  have V_b22_23 := Arv.set Ar_b22 q_b22 S_b22 N_b22 H_b22 G_b22 rfl W23 0 rfl (Nat.le_of_ble_eq_true rfl)      -- the array as it stands now (the place must lie among its first values: Arv.pad with pad_rep lengthens them)
  have K23 : Keep h0 h23 [] := K22.wr W23 (Or.inr sz_b22)
  have N23 := Fr.snoc X23 N21 g_b22
  obtain ⟨cl_b22_53, Ar_b22, q_b22, S_b22, N_b22, H_b22, G_b22⟩ := V_b22_23      -- open the array's fact as it stands now (its cell, kind, length, elements)
  have hin53 : ¬ ((1 : Int32) < 0 ∨ cl_b22_53.slots.size ≤ ((1 : Int32)).toNatClampNeg) := inb_of S_b22 ⟨by decide, by decide⟩
  obtain ⟨T24, h24, X24, e24, W24, st24⟩ := stI X23 hx hZ e23 Ar_b22 (j := (1 : Int32)) hin53 (g := (mkF m 53 #[.val (.int p1), .val (.int p2), .val (.ref b3), .unset, .unset, .unset, .unset, .unset] [(.int (5 : Int32)), (.int (1 : Int32)), (.ref b22), (.ref b22)])) rfl rfl (hb hby at_53)
  have V_b22_24 := Arv.set Ar_b22 q_b22 S_b22 N_b22 H_b22 G_b22 rfl W24 1 rfl (Nat.le_of_ble_eq_true rfl)      -- the array as it stands now (the place must lie among its first values: Arv.pad with pad_rep lengthens them)
  have K24 : Keep h0 h24 [] := K23.wr W24 (Or.inr sz_b22)
  have N24 := Fr.snoc X24 N23 g_b22
  obtain ⟨cl_b22_57, Ar_b22, q_b22, S_b22, N_b22, H_b22, G_b22⟩ := V_b22_24      -- open the array's fact as it stands now (its cell, kind, length, elements)
  have hin57 : ¬ ((2 : Int32) < 0 ∨ cl_b22_57.slots.size ≤ ((2 : Int32)).toNatClampNeg) := inb_of S_b22 ⟨by decide, by decide⟩
  obtain ⟨T25, h25, X25, e25, W25, st25⟩ := stI X24 hx hZ e24 Ar_b22 (j := (2 : Int32)) hin57 (g := (mkF m 57 #[.val (.int p1), .val (.int p2), .val (.ref b3), .unset, .unset, .unset, .unset, .unset] [(.int (1 : Int32)), (.int (2 : Int32)), (.ref b22), (.ref b22)])) rfl rfl (hb hby at_57)
  have V_b22_25 := Arv.set Ar_b22 q_b22 S_b22 N_b22 H_b22 G_b22 rfl W25 2 rfl (Nat.le_of_ble_eq_true rfl)      -- the array as it stands now (the place must lie among its first values: Arv.pad with pad_rep lengthens them)
  have K25 : Keep h0 h25 [] := K24.wr W25 (Or.inr sz_b22)
  have N25 := Fr.snoc X25 N24 g_b22
  obtain ⟨cl_b22_61, Ar_b22, q_b22, S_b22, N_b22, H_b22, G_b22⟩ := V_b22_25      -- open the array's fact as it stands now (its cell, kind, length, elements)
  have hin61 : ¬ ((3 : Int32) < 0 ∨ cl_b22_61.slots.size ≤ ((3 : Int32)).toNatClampNeg) := inb_of S_b22 ⟨by decide, by decide⟩
  obtain ⟨T26, h26, X26, e26, W26, st26⟩ := stI X25 hx hZ e25 Ar_b22 (j := (3 : Int32)) hin61 (g := (mkF m 61 #[.val (.int p1), .val (.int p2), .val (.ref b3), .unset, .unset, .unset, .unset, .unset] [(.int (3 : Int32)), (.int (3 : Int32)), (.ref b22), (.ref b22)])) rfl rfl (hb hby at_61)
  have V_b22_26 := Arv.set Ar_b22 q_b22 S_b22 N_b22 H_b22 G_b22 rfl W26 3 rfl (Nat.le_of_ble_eq_true rfl)      -- the array as it stands now (the place must lie among its first values: Arv.pad with pad_rep lengthens them)
  have K26 : Keep h0 h26 [] := K25.wr W26 (Or.inr sz_b22)
  have N26 := Fr.snoc X26 N25 g_b22
  obtain ⟨cl_b22_65, Ar_b22, q_b22, S_b22, N_b22, H_b22, G_b22⟩ := V_b22_26      -- open the array's fact as it stands now (its cell, kind, length, elements)
  have hin65 : ¬ ((4 : Int32) < 0 ∨ cl_b22_65.slots.size ≤ ((4 : Int32)).toNatClampNeg) := inb_of S_b22 ⟨by decide, by decide⟩
  obtain ⟨T27, h27, X27, e27, W27, st27⟩ := stI X26 hx hZ e26 Ar_b22 (j := (4 : Int32)) hin65 (g := (mkF m 65 #[.val (.int p1), .val (.int p2), .val (.ref b3), .unset, .unset, .unset, .unset, .unset] [(.int (4 : Int32)), (.int (4 : Int32)), (.ref b22), (.ref b22)])) rfl rfl (hb hby at_65)
  have V_b22_27 := Arv.set Ar_b22 q_b22 S_b22 N_b22 H_b22 G_b22 rfl W27 4 rfl (Nat.le_of_ble_eq_true rfl)      -- the array as it stands now (the place must lie among its first values: Arv.pad with pad_rep lengthens them)
  have K27 : Keep h0 h27 [] := K26.wr W27 (Or.inr sz_b22)
  have N27 := Fr.snoc X27 N26 g_b22
  obtain ⟨cl_b22_70, Ar_b22, q_b22, S_b22, N_b22, H_b22, G_b22⟩ := V_b22_27      -- open the array's fact as it stands now (its cell, kind, length, elements)
  have hin70 : ¬ ((5 : Int32) < 0 ∨ cl_b22_70.slots.size ≤ ((5 : Int32)).toNatClampNeg) := inb_of S_b22 ⟨by decide, by decide⟩
  obtain ⟨T28, h28, X28, e28, W28, st28⟩ := stI X27 hx hZ e27 Ar_b22 (j := (5 : Int32)) hin70 (g := (mkF m 70 #[.val (.int p1), .val (.int p2), .val (.ref b3), .unset, .unset, .unset, .unset, .unset] [(.int (6 : Int32)), (.int (5 : Int32)), (.ref b22), (.ref b22)])) rfl rfl (hb hby at_70)
  have V_b22_28 := Arv.set Ar_b22 q_b22 S_b22 N_b22 H_b22 G_b22 rfl W28 5 rfl (Nat.le_of_ble_eq_true rfl)      -- the array as it stands now (the place must lie among its first values: Arv.pad with pad_rep lengthens them)
  have K28 : Keep h0 h28 [] := K27.wr W28 (Or.inr sz_b22)
  have N28 := Fr.snoc X28 N27 g_b22
  obtain ⟨cl_b3_84, Ar_b3_84, -, S_b3_84, -, H_b3_84, -⟩ := (((((((V_b3_21.ext E22).other W23 (Nat.ne_of_lt (Nat.lt_of_lt_of_le V_b3_21.lt (Nat.le_of_eq g22.symm)))).other W24 (Nat.ne_of_lt (Nat.lt_of_lt_of_le V_b3_21.lt (Nat.le_of_eq g22.symm)))).other W25 (Nat.ne_of_lt (Nat.lt_of_lt_of_le V_b3_21.lt (Nat.le_of_eq g22.symm)))).other W26 (Nat.ne_of_lt (Nat.lt_of_lt_of_le V_b3_21.lt (Nat.le_of_eq g22.symm)))).other W27 (Nat.ne_of_lt (Nat.lt_of_lt_of_le V_b3_21.lt (Nat.le_of_eq g22.symm)))).other W28 (Nat.ne_of_lt (Nat.lt_of_lt_of_le V_b3_21.lt (Nat.le_of_eq g22.symm))))
  have hin84 : ¬ (((p1 &&& (2147483647 : Int32)) % (6 : Int32)) < 0 ∨ cl_b3_84.slots.size ≤ (((p1 &&& (2147483647 : Int32)) % (6 : Int32))).toNatClampNeg) := inb_of S_b3_84 hlo84
  have hat84 : cl_b3_84.slots[(((p1 &&& (2147483647 : Int32)) % (6 : Int32))).toNatClampNeg]? = some (.ref w29) := (H_b3_84 _ (Nat.lt_of_not_le fun q => hin84 (Or.inr q))).trans (congrArg some hel84)
  obtain ⟨cl_b22_113, Ar_b22_113, -, S_b22_113, -, H_b22_113, -⟩ := V_b22_28
  have hin113 : ¬ (((p1 &&& (2147483647 : Int32)) % (6 : Int32)) < 0 ∨ cl_b22_113.slots.size ≤ (((p1 &&& (2147483647 : Int32)) % (6 : Int32))).toNatClampNeg) := inb_of S_b22_113 hlo113
  have hat113 : cl_b22_113.slots[(((p1 &&& (2147483647 : Int32)) % (6 : Int32))).toNatClampNeg]? = some (.int w30) := (H_b22_113 _ (Nat.lt_of_not_le fun q => hin113 (Or.inr q))).trans (congrArg some hel113)
  obtain ⟨cq31, kq31, q31a, q31b, q31c⟩ := isOf hZ e28 ((((((((((((((E_w29.ext E3).wr W6).wr W9).wr W12).wr W15).wr W18).wr W21).ext E22).wr W23).wr W24).wr W25).wr W26).wr W27).wr W28)
  obtain ⟨_, _, ⟨T31, L31, k31, n31⟩, -, X31, ⟨Lc31, hQ31, l31, y31, z31⟩, st31⟩ := X28.virtualBack hx (y := (⟨"com/example/quantorum/quantorum/algebra/Relation", "holds", "(I)Z"⟩ : MethodName)) (z := (⟨"com/example/quantorum/quantorum/algebra/Relation", "holds", "(I)Z"⟩ : MethodName)) hown (mvT hZ (hw _ (List.mem_of_getElem? (i := 18) rfl))) (mvT hZ (hw _ (List.mem_of_getElem? (i := 19) rfl))) (notFace_of_selects (args := #[]) (mvT hZ (hw _ (List.mem_of_getElem? (i := 21) rfl)))) (mvT hZ (hw _ (List.mem_of_getElem? (i := 21) rfl))) (mvT hZ (hw _ (List.mem_of_getElem? (i := 20) rfl))) (by decide) (backOf (W := 0) (hcall h28 K28 (Nat.le_trans Z0 K28.1)) hZ (hw _ (List.mem_of_getElem? (i := 22) rfl)) (hw _ (List.mem_of_getElem? (i := 3) rfl)) (by decide) (by decide)) q31a q31c (g := (mkF m 132 #[.val (.int p1), .val (.int p2), .val (.ref b3), .val (.ref b22), .val (.int ((p1 &&& (2147483647 : Int32)) % (6 : Int32))), .val (.ref w29), .val (.int (1 : Int32)), .val (.int (1 : Int32))] [(.int p2), (.ref w29)])) rfl (by rw [hml]; rfl) (Steps.refl _) (argsL := [(.int p2)]) (rest := []) (lenOf pd_0_0 rfl) rfl (by show 2 * 0 + _ ≤ _; exact Nat.le_of_eq rfl) (hb hby at_132) (fun _ _ => ⟨rfl, e28, (by decide : 2 + 0 ≤ _), (by decide : 12 + 0 ≤ _)⟩)
  dsimp only [Pt.U, Pt.locs, Pt.cells, Pt.slots] at X31 l31 y31 z31 st31 hQ31
  subst l31 y31 z31
  obtain ⟨rfl, N31q, e31⟩ := hQ31
  have N31 := Fr.app N28 N31q
  obtain ⟨fs, hr, hrun, hended, hW, hsame⟩ := X31.leave (v := some (.int (1 : Int32))) (fun h => by rw [Bd.returns] at h; cases h)
  refine ⟨_, _, pre0 _ ?_, hrun, hended, _, _, rfl, ?_, ⟨_, rfl⟩, hW, hsame.mono (by decide) (by decide)⟩
  · show Steps p.tables e below (s₁.setTop (mkF m 0 #[.val (.int p1), .val (.int p2), .unset, .unset, .unset, .unset, .unset, .unset] [])) _
    refine XS.bipush X0.here hx rfl (hb hby at_0) ?_
    show Steps p.tables e below (s₁.setTop (mkF m 2 #[.val (.int p1), .val (.int p2), .unset, .unset, .unset, .unset, .unset, .unset] [(.int (6 : Int32))])) _
    refine st3 _ ?_
    show Steps p.tables e below (T3.setTop (mkF m 5 #[.val (.int p1), .val (.int p2), .unset, .unset, .unset, .unset, .unset, .unset] [(.ref b3)])) _
    refine XS.dup X3.here hx rfl (hb hby at_5) rfl rfl ?_
    show Steps p.tables e below (T3.setTop (mkF m 6 #[.val (.int p1), .val (.int p2), .unset, .unset, .unset, .unset, .unset, .unset] [(.ref b3), (.ref b3)])) _
    refine XS.iconst X3.here hx rfl (hb hby at_6) ?_
    show Steps p.tables e below (T3.setTop (mkF m 7 #[.val (.int p1), .val (.int p2), .unset, .unset, .unset, .unset, .unset, .unset] [(.int (0 : Int32)), (.ref b3), (.ref b3)])) _
    refine st5 _ ?_
    show Steps p.tables e below (T5.setTop (mkF m 10 #[.val (.int p1), .val (.int p2), .unset, .unset, .unset, .unset, .unset, .unset] [(.ref w4), (.int (0 : Int32)), (.ref b3), (.ref b3)])) _
    refine st6 _ ?_
    show Steps p.tables e below (T6.setTop (mkF m 11 #[.val (.int p1), .val (.int p2), .unset, .unset, .unset, .unset, .unset, .unset] [(.ref b3)])) _
    refine XS.dup X6.here hx rfl (hb hby at_11) rfl rfl ?_
    show Steps p.tables e below (T6.setTop (mkF m 12 #[.val (.int p1), .val (.int p2), .unset, .unset, .unset, .unset, .unset, .unset] [(.ref b3), (.ref b3)])) _
    refine XS.iconst X6.here hx rfl (hb hby at_12) ?_
    show Steps p.tables e below (T6.setTop (mkF m 13 #[.val (.int p1), .val (.int p2), .unset, .unset, .unset, .unset, .unset, .unset] [(.int (1 : Int32)), (.ref b3), (.ref b3)])) _
    refine st8 _ ?_
    show Steps p.tables e below (T8.setTop (mkF m 16 #[.val (.int p1), .val (.int p2), .unset, .unset, .unset, .unset, .unset, .unset] [(.ref w7), (.int (1 : Int32)), (.ref b3), (.ref b3)])) _
    refine st9 _ ?_
    show Steps p.tables e below (T9.setTop (mkF m 17 #[.val (.int p1), .val (.int p2), .unset, .unset, .unset, .unset, .unset, .unset] [(.ref b3)])) _
    refine XS.dup X9.here hx rfl (hb hby at_17) rfl rfl ?_
    show Steps p.tables e below (T9.setTop (mkF m 18 #[.val (.int p1), .val (.int p2), .unset, .unset, .unset, .unset, .unset, .unset] [(.ref b3), (.ref b3)])) _
    refine XS.iconst X9.here hx rfl (hb hby at_18) ?_
    show Steps p.tables e below (T9.setTop (mkF m 19 #[.val (.int p1), .val (.int p2), .unset, .unset, .unset, .unset, .unset, .unset] [(.int (2 : Int32)), (.ref b3), (.ref b3)])) _
    refine st11 _ ?_
    show Steps p.tables e below (T11.setTop (mkF m 22 #[.val (.int p1), .val (.int p2), .unset, .unset, .unset, .unset, .unset, .unset] [(.ref w10), (.int (2 : Int32)), (.ref b3), (.ref b3)])) _
    refine st12 _ ?_
    show Steps p.tables e below (T12.setTop (mkF m 23 #[.val (.int p1), .val (.int p2), .unset, .unset, .unset, .unset, .unset, .unset] [(.ref b3)])) _
    refine XS.dup X12.here hx rfl (hb hby at_23) rfl rfl ?_
    show Steps p.tables e below (T12.setTop (mkF m 24 #[.val (.int p1), .val (.int p2), .unset, .unset, .unset, .unset, .unset, .unset] [(.ref b3), (.ref b3)])) _
    refine XS.iconst X12.here hx rfl (hb hby at_24) ?_
    show Steps p.tables e below (T12.setTop (mkF m 25 #[.val (.int p1), .val (.int p2), .unset, .unset, .unset, .unset, .unset, .unset] [(.int (3 : Int32)), (.ref b3), (.ref b3)])) _
    refine st14 _ ?_
    show Steps p.tables e below (T14.setTop (mkF m 28 #[.val (.int p1), .val (.int p2), .unset, .unset, .unset, .unset, .unset, .unset] [(.ref w13), (.int (3 : Int32)), (.ref b3), (.ref b3)])) _
    refine st15 _ ?_
    show Steps p.tables e below (T15.setTop (mkF m 29 #[.val (.int p1), .val (.int p2), .unset, .unset, .unset, .unset, .unset, .unset] [(.ref b3)])) _
    refine XS.dup X15.here hx rfl (hb hby at_29) rfl rfl ?_
    show Steps p.tables e below (T15.setTop (mkF m 30 #[.val (.int p1), .val (.int p2), .unset, .unset, .unset, .unset, .unset, .unset] [(.ref b3), (.ref b3)])) _
    refine XS.iconst X15.here hx rfl (hb hby at_30) ?_
    show Steps p.tables e below (T15.setTop (mkF m 31 #[.val (.int p1), .val (.int p2), .unset, .unset, .unset, .unset, .unset, .unset] [(.int (4 : Int32)), (.ref b3), (.ref b3)])) _
    refine st17 _ ?_
    show Steps p.tables e below (T17.setTop (mkF m 34 #[.val (.int p1), .val (.int p2), .unset, .unset, .unset, .unset, .unset, .unset] [(.ref w16), (.int (4 : Int32)), (.ref b3), (.ref b3)])) _
    refine st18 _ ?_
    show Steps p.tables e below (T18.setTop (mkF m 35 #[.val (.int p1), .val (.int p2), .unset, .unset, .unset, .unset, .unset, .unset] [(.ref b3)])) _
    refine XS.dup X18.here hx rfl (hb hby at_35) rfl rfl ?_
    show Steps p.tables e below (T18.setTop (mkF m 36 #[.val (.int p1), .val (.int p2), .unset, .unset, .unset, .unset, .unset, .unset] [(.ref b3), (.ref b3)])) _
    refine XS.iconst X18.here hx rfl (hb hby at_36) ?_
    show Steps p.tables e below (T18.setTop (mkF m 37 #[.val (.int p1), .val (.int p2), .unset, .unset, .unset, .unset, .unset, .unset] [(.int (5 : Int32)), (.ref b3), (.ref b3)])) _
    refine st20 _ ?_
    show Steps p.tables e below (T20.setTop (mkF m 40 #[.val (.int p1), .val (.int p2), .unset, .unset, .unset, .unset, .unset, .unset] [(.ref w19), (.int (5 : Int32)), (.ref b3), (.ref b3)])) _
    refine st21 _ ?_
    show Steps p.tables e below (T21.setTop (mkF m 41 #[.val (.int p1), .val (.int p2), .unset, .unset, .unset, .unset, .unset, .unset] [(.ref b3)])) _
    refine XS.astoreN X21.here hx rfl (hb hby at_41) rfl rfl (l' := #[.val (.int p1), .val (.int p2), .val (.ref b3), .unset, .unset, .unset, .unset, .unset]) rfl ?_
    show Steps p.tables e below (T21.setTop (mkF m 42 #[.val (.int p1), .val (.int p2), .val (.ref b3), .unset, .unset, .unset, .unset, .unset] [])) _
    refine XS.bipush X21.here hx rfl (hb hby at_42) ?_
    show Steps p.tables e below (T21.setTop (mkF m 44 #[.val (.int p1), .val (.int p2), .val (.ref b3), .unset, .unset, .unset, .unset, .unset] [(.int (6 : Int32))])) _
    refine st22 _ ?_
    show Steps p.tables e below (T22.setTop (mkF m 46 #[.val (.int p1), .val (.int p2), .val (.ref b3), .unset, .unset, .unset, .unset, .unset] [(.ref b22)])) _
    refine XS.dup X22.here hx rfl (hb hby at_46) rfl rfl ?_
    show Steps p.tables e below (T22.setTop (mkF m 47 #[.val (.int p1), .val (.int p2), .val (.ref b3), .unset, .unset, .unset, .unset, .unset] [(.ref b22), (.ref b22)])) _
    refine XS.iconst X22.here hx rfl (hb hby at_47) ?_
    show Steps p.tables e below (T22.setTop (mkF m 48 #[.val (.int p1), .val (.int p2), .val (.ref b3), .unset, .unset, .unset, .unset, .unset] [(.int (0 : Int32)), (.ref b22), (.ref b22)])) _
    refine XS.iconst X22.here hx rfl (hb hby at_48) ?_
    show Steps p.tables e below (T22.setTop (mkF m 49 #[.val (.int p1), .val (.int p2), .val (.ref b3), .unset, .unset, .unset, .unset, .unset] [(.int (2 : Int32)), (.int (0 : Int32)), (.ref b22), (.ref b22)])) _
    refine st23 _ ?_
    show Steps p.tables e below (T23.setTop (mkF m 50 #[.val (.int p1), .val (.int p2), .val (.ref b3), .unset, .unset, .unset, .unset, .unset] [(.ref b22)])) _
    refine XS.dup X23.here hx rfl (hb hby at_50) rfl rfl ?_
    show Steps p.tables e below (T23.setTop (mkF m 51 #[.val (.int p1), .val (.int p2), .val (.ref b3), .unset, .unset, .unset, .unset, .unset] [(.ref b22), (.ref b22)])) _
    refine XS.iconst X23.here hx rfl (hb hby at_51) ?_
    show Steps p.tables e below (T23.setTop (mkF m 52 #[.val (.int p1), .val (.int p2), .val (.ref b3), .unset, .unset, .unset, .unset, .unset] [(.int (1 : Int32)), (.ref b22), (.ref b22)])) _
    refine XS.iconst X23.here hx rfl (hb hby at_52) ?_
    show Steps p.tables e below (T23.setTop (mkF m 53 #[.val (.int p1), .val (.int p2), .val (.ref b3), .unset, .unset, .unset, .unset, .unset] [(.int (5 : Int32)), (.int (1 : Int32)), (.ref b22), (.ref b22)])) _
    refine st24 _ ?_
    show Steps p.tables e below (T24.setTop (mkF m 54 #[.val (.int p1), .val (.int p2), .val (.ref b3), .unset, .unset, .unset, .unset, .unset] [(.ref b22)])) _
    refine XS.dup X24.here hx rfl (hb hby at_54) rfl rfl ?_
    show Steps p.tables e below (T24.setTop (mkF m 55 #[.val (.int p1), .val (.int p2), .val (.ref b3), .unset, .unset, .unset, .unset, .unset] [(.ref b22), (.ref b22)])) _
    refine XS.iconst X24.here hx rfl (hb hby at_55) ?_
    show Steps p.tables e below (T24.setTop (mkF m 56 #[.val (.int p1), .val (.int p2), .val (.ref b3), .unset, .unset, .unset, .unset, .unset] [(.int (2 : Int32)), (.ref b22), (.ref b22)])) _
    refine XS.iconst X24.here hx rfl (hb hby at_56) ?_
    show Steps p.tables e below (T24.setTop (mkF m 57 #[.val (.int p1), .val (.int p2), .val (.ref b3), .unset, .unset, .unset, .unset, .unset] [(.int (1 : Int32)), (.int (2 : Int32)), (.ref b22), (.ref b22)])) _
    refine st25 _ ?_
    show Steps p.tables e below (T25.setTop (mkF m 58 #[.val (.int p1), .val (.int p2), .val (.ref b3), .unset, .unset, .unset, .unset, .unset] [(.ref b22)])) _
    refine XS.dup X25.here hx rfl (hb hby at_58) rfl rfl ?_
    show Steps p.tables e below (T25.setTop (mkF m 59 #[.val (.int p1), .val (.int p2), .val (.ref b3), .unset, .unset, .unset, .unset, .unset] [(.ref b22), (.ref b22)])) _
    refine XS.iconst X25.here hx rfl (hb hby at_59) ?_
    show Steps p.tables e below (T25.setTop (mkF m 60 #[.val (.int p1), .val (.int p2), .val (.ref b3), .unset, .unset, .unset, .unset, .unset] [(.int (3 : Int32)), (.ref b22), (.ref b22)])) _
    refine XS.iconst X25.here hx rfl (hb hby at_60) ?_
    show Steps p.tables e below (T25.setTop (mkF m 61 #[.val (.int p1), .val (.int p2), .val (.ref b3), .unset, .unset, .unset, .unset, .unset] [(.int (3 : Int32)), (.int (3 : Int32)), (.ref b22), (.ref b22)])) _
    refine st26 _ ?_
    show Steps p.tables e below (T26.setTop (mkF m 62 #[.val (.int p1), .val (.int p2), .val (.ref b3), .unset, .unset, .unset, .unset, .unset] [(.ref b22)])) _
    refine XS.dup X26.here hx rfl (hb hby at_62) rfl rfl ?_
    show Steps p.tables e below (T26.setTop (mkF m 63 #[.val (.int p1), .val (.int p2), .val (.ref b3), .unset, .unset, .unset, .unset, .unset] [(.ref b22), (.ref b22)])) _
    refine XS.iconst X26.here hx rfl (hb hby at_63) ?_
    show Steps p.tables e below (T26.setTop (mkF m 64 #[.val (.int p1), .val (.int p2), .val (.ref b3), .unset, .unset, .unset, .unset, .unset] [(.int (4 : Int32)), (.ref b22), (.ref b22)])) _
    refine XS.iconst X26.here hx rfl (hb hby at_64) ?_
    show Steps p.tables e below (T26.setTop (mkF m 65 #[.val (.int p1), .val (.int p2), .val (.ref b3), .unset, .unset, .unset, .unset, .unset] [(.int (4 : Int32)), (.int (4 : Int32)), (.ref b22), (.ref b22)])) _
    refine st27 _ ?_
    show Steps p.tables e below (T27.setTop (mkF m 66 #[.val (.int p1), .val (.int p2), .val (.ref b3), .unset, .unset, .unset, .unset, .unset] [(.ref b22)])) _
    refine XS.dup X27.here hx rfl (hb hby at_66) rfl rfl ?_
    show Steps p.tables e below (T27.setTop (mkF m 67 #[.val (.int p1), .val (.int p2), .val (.ref b3), .unset, .unset, .unset, .unset, .unset] [(.ref b22), (.ref b22)])) _
    refine XS.iconst X27.here hx rfl (hb hby at_67) ?_
    show Steps p.tables e below (T27.setTop (mkF m 68 #[.val (.int p1), .val (.int p2), .val (.ref b3), .unset, .unset, .unset, .unset, .unset] [(.int (5 : Int32)), (.ref b22), (.ref b22)])) _
    refine XS.bipush X27.here hx rfl (hb hby at_68) ?_
    show Steps p.tables e below (T27.setTop (mkF m 70 #[.val (.int p1), .val (.int p2), .val (.ref b3), .unset, .unset, .unset, .unset, .unset] [(.int (6 : Int32)), (.int (5 : Int32)), (.ref b22), (.ref b22)])) _
    refine st28 _ ?_
    show Steps p.tables e below (T28.setTop (mkF m 71 #[.val (.int p1), .val (.int p2), .val (.ref b3), .unset, .unset, .unset, .unset, .unset] [(.ref b22)])) _
    refine XS.astoreN X28.here hx rfl (hb hby at_71) rfl rfl (l' := #[.val (.int p1), .val (.int p2), .val (.ref b3), .val (.ref b22), .unset, .unset, .unset, .unset]) rfl ?_
    show Steps p.tables e below (T28.setTop (mkF m 72 #[.val (.int p1), .val (.int p2), .val (.ref b3), .val (.ref b22), .unset, .unset, .unset, .unset] [])) _
    refine XS.iloadN X28.here hx rfl (hb hby at_72) rfl ?_
    show Steps p.tables e below (T28.setTop (mkF m 73 #[.val (.int p1), .val (.int p2), .val (.ref b3), .val (.ref b22), .unset, .unset, .unset, .unset] [(.int p1)])) _
    refine X28.ldcInt hx hown (mvT hZ (hw _ (List.mem_of_getElem? (i := 17) rfl))) (g := (mkF m 73 #[.val (.int p1), .val (.int p2), .val (.ref b3), .val (.ref b22), .unset, .unset, .unset, .unset] [(.int p1)])) rfl (hb hby at_73) _ ?_
    show Steps p.tables e below (T28.setTop (mkF m 75 #[.val (.int p1), .val (.int p2), .val (.ref b3), .val (.ref b22), .unset, .unset, .unset, .unset] [(.int (2147483647 : Int32)), (.int p1)])) _
    refine XS.iand X28.here hx rfl (hb hby at_75) rfl ?_
    show Steps p.tables e below (T28.setTop (mkF m 76 #[.val (.int p1), .val (.int p2), .val (.ref b3), .val (.ref b22), .unset, .unset, .unset, .unset] [(.int (p1 &&& (2147483647 : Int32)))])) _
    refine XS.bipush X28.here hx rfl (hb hby at_76) ?_
    show Steps p.tables e below (T28.setTop (mkF m 78 #[.val (.int p1), .val (.int p2), .val (.ref b3), .val (.ref b22), .unset, .unset, .unset, .unset] [(.int (6 : Int32)), (.int (p1 &&& (2147483647 : Int32)))])) _
    refine iremM X28 hx rfl (hb hby at_78) rfl (by decide) ?_
    show Steps p.tables e below (T28.setTop (mkF m 79 #[.val (.int p1), .val (.int p2), .val (.ref b3), .val (.ref b22), .unset, .unset, .unset, .unset] [(.int ((p1 &&& (2147483647 : Int32)) % (6 : Int32)))])) _
    refine XS.istore X28.here hx rfl (hb hby at_79) rfl (l' := #[.val (.int p1), .val (.int p2), .val (.ref b3), .val (.ref b22), .val (.int ((p1 &&& (2147483647 : Int32)) % (6 : Int32))), .unset, .unset, .unset]) rfl ?_
    show Steps p.tables e below (T28.setTop (mkF m 81 #[.val (.int p1), .val (.int p2), .val (.ref b3), .val (.ref b22), .val (.int ((p1 &&& (2147483647 : Int32)) % (6 : Int32))), .unset, .unset, .unset] [])) _
    refine XS.aloadN X28.here hx rfl (hb hby at_81) rfl rfl ?_
    show Steps p.tables e below (T28.setTop (mkF m 82 #[.val (.int p1), .val (.int p2), .val (.ref b3), .val (.ref b22), .val (.int ((p1 &&& (2147483647 : Int32)) % (6 : Int32))), .unset, .unset, .unset] [(.ref b3)])) _
    refine XS.iload X28.here hx rfl (hb hby at_82) rfl ?_
    show Steps p.tables e below (T28.setTop (mkF m 84 #[.val (.int p1), .val (.int p2), .val (.ref b3), .val (.ref b22), .val (.int ((p1 &&& (2147483647 : Int32)) % (6 : Int32))), .unset, .unset, .unset] [(.int ((p1 &&& (2147483647 : Int32)) % (6 : Int32))), (.ref b3)])) _
    refine X28.aaload hx (j := ((p1 &&& (2147483647 : Int32)) % (6 : Int32))) (v := (.ref w29)) (by rw [e28]; exact Ar_b3_84.1) (State.isArrayOf_alike hZ.alike Ar_b3_84.2.1) rfl Ar_b3_84.2.2 hin84 hat84 (g := (mkF m 84 #[.val (.int p1), .val (.int p2), .val (.ref b3), .val (.ref b22), .val (.int ((p1 &&& (2147483647 : Int32)) % (6 : Int32))), .unset, .unset, .unset] [(.int ((p1 &&& (2147483647 : Int32)) % (6 : Int32))), (.ref b3)])) rfl rfl (hb hby at_84) _ ?_
    show Steps p.tables e below (T28.setTop (mkF m 85 #[.val (.int p1), .val (.int p2), .val (.ref b3), .val (.ref b22), .val (.int ((p1 &&& (2147483647 : Int32)) % (6 : Int32))), .unset, .unset, .unset] [(.ref w29)])) _
    refine XS.astore X28.here hx rfl (hb hby at_85) rfl rfl (l' := #[.val (.int p1), .val (.int p2), .val (.ref b3), .val (.ref b22), .val (.int ((p1 &&& (2147483647 : Int32)) % (6 : Int32))), .val (.ref w29), .unset, .unset]) rfl ?_
    show Steps p.tables e below (T28.setTop (mkF m 87 #[.val (.int p1), .val (.int p2), .val (.ref b3), .val (.ref b22), .val (.int ((p1 &&& (2147483647 : Int32)) % (6 : Int32))), .val (.ref w29), .unset, .unset] [])) _
    refine XS.iloadN X28.here hx rfl (hb hby at_87) rfl ?_
    show Steps p.tables e below (T28.setTop (mkF m 88 #[.val (.int p1), .val (.int p2), .val (.ref b3), .val (.ref b22), .val (.int ((p1 &&& (2147483647 : Int32)) % (6 : Int32))), .val (.ref w29), .unset, .unset] [(.int p2)])) _
    refine XS.ifYes X28.here hx rfl (pc0 := 88) (pc' := 97) rfl (hb hby at_88) rfl ((if0 _ _).trans (flt hc88).2.1) (by decide) (by decide) ?_
    show Steps p.tables e below (T28.setTop (mkF m 97 #[.val (.int p1), .val (.int p2), .val (.ref b3), .val (.ref b22), .val (.int ((p1 &&& (2147483647 : Int32)) % (6 : Int32))), .val (.ref w29), .unset, .unset] [])) _
    refine XS.iloadN X28.here hx rfl (hb hby at_97) rfl ?_
    show Steps p.tables e below (T28.setTop (mkF m 98 #[.val (.int p1), .val (.int p2), .val (.ref b3), .val (.ref b22), .val (.int ((p1 &&& (2147483647 : Int32)) % (6 : Int32))), .val (.ref w29), .unset, .unset] [(.int p2)])) _
    refine XS.ifNo X28.here hx rfl (hb hby at_98) rfl ((if0 _ _).trans (teq hc98).2) ?_
    show Steps p.tables e below (T28.setTop (mkF m 101 #[.val (.int p1), .val (.int p2), .val (.ref b3), .val (.ref b22), .val (.int ((p1 &&& (2147483647 : Int32)) % (6 : Int32))), .val (.ref w29), .unset, .unset] [])) _
    refine XS.iconst X28.here hx rfl (hb hby at_101) ?_
    show Steps p.tables e below (T28.setTop (mkF m 102 #[.val (.int p1), .val (.int p2), .val (.ref b3), .val (.ref b22), .val (.int ((p1 &&& (2147483647 : Int32)) % (6 : Int32))), .val (.ref w29), .unset, .unset] [(.int (1 : Int32))])) _
    refine XS.istore X28.here hx rfl (hb hby at_102) rfl (l' := #[.val (.int p1), .val (.int p2), .val (.ref b3), .val (.ref b22), .val (.int ((p1 &&& (2147483647 : Int32)) % (6 : Int32))), .val (.ref w29), .val (.int (1 : Int32)), .unset]) rfl ?_
    show Steps p.tables e below (T28.setTop (mkF m 104 #[.val (.int p1), .val (.int p2), .val (.ref b3), .val (.ref b22), .val (.int ((p1 &&& (2147483647 : Int32)) % (6 : Int32))), .val (.ref w29), .val (.int (1 : Int32)), .unset] [])) _
    refine XS.goto X28.here hx rfl (pc0 := 104) (pc' := 110) rfl (hb hby at_104) (by decide) (by decide) ?_
    show Steps p.tables e below (T28.setTop (mkF m 110 #[.val (.int p1), .val (.int p2), .val (.ref b3), .val (.ref b22), .val (.int ((p1 &&& (2147483647 : Int32)) % (6 : Int32))), .val (.ref w29), .val (.int (1 : Int32)), .unset] [])) _
    refine XS.aloadN X28.here hx rfl (hb hby at_110) rfl rfl ?_
    show Steps p.tables e below (T28.setTop (mkF m 111 #[.val (.int p1), .val (.int p2), .val (.ref b3), .val (.ref b22), .val (.int ((p1 &&& (2147483647 : Int32)) % (6 : Int32))), .val (.ref w29), .val (.int (1 : Int32)), .unset] [(.ref b22)])) _
    refine XS.iload X28.here hx rfl (hb hby at_111) rfl ?_
    show Steps p.tables e below (T28.setTop (mkF m 113 #[.val (.int p1), .val (.int p2), .val (.ref b3), .val (.ref b22), .val (.int ((p1 &&& (2147483647 : Int32)) % (6 : Int32))), .val (.ref w29), .val (.int (1 : Int32)), .unset] [(.int ((p1 &&& (2147483647 : Int32)) % (6 : Int32))), (.ref b22)])) _
    refine X28.iaload hx (j := ((p1 &&& (2147483647 : Int32)) % (6 : Int32))) (v := (.int w30)) (by rw [e28]; exact Ar_b22_113.1) (State.isArrayOf_alike hZ.alike Ar_b22_113.2.1) Ar_b22_113.2.2 hin113 hat113 (g := (mkF m 113 #[.val (.int p1), .val (.int p2), .val (.ref b3), .val (.ref b22), .val (.int ((p1 &&& (2147483647 : Int32)) % (6 : Int32))), .val (.ref w29), .val (.int (1 : Int32)), .unset] [(.int ((p1 &&& (2147483647 : Int32)) % (6 : Int32))), (.ref b22)])) rfl rfl (hb hby at_113) _ ?_
    show Steps p.tables e below (T28.setTop (mkF m 114 #[.val (.int p1), .val (.int p2), .val (.ref b3), .val (.ref b22), .val (.int ((p1 &&& (2147483647 : Int32)) % (6 : Int32))), .val (.ref w29), .val (.int (1 : Int32)), .unset] [(.int w30)])) _
    refine XS.iload X28.here hx rfl (hb hby at_114) rfl ?_
    show Steps p.tables e below (T28.setTop (mkF m 116 #[.val (.int p1), .val (.int p2), .val (.ref b3), .val (.ref b22), .val (.int ((p1 &&& (2147483647 : Int32)) % (6 : Int32))), .val (.ref w29), .val (.int (1 : Int32)), .unset] [(.int (1 : Int32)), (.int w30)])) _
    refine XS.ishr X28.here hx rfl (hb hby at_116) rfl ?_
    show Steps p.tables e below (T28.setTop (mkF m 117 #[.val (.int p1), .val (.int p2), .val (.ref b3), .val (.ref b22), .val (.int ((p1 &&& (2147483647 : Int32)) % (6 : Int32))), .val (.ref w29), .val (.int (1 : Int32)), .unset] [(.int (w30 >>> ((1 : Int32) &&& 31)))])) _
    refine XS.iconst X28.here hx rfl (hb hby at_117) ?_
    show Steps p.tables e below (T28.setTop (mkF m 118 #[.val (.int p1), .val (.int p2), .val (.ref b3), .val (.ref b22), .val (.int ((p1 &&& (2147483647 : Int32)) % (6 : Int32))), .val (.ref w29), .val (.int (1 : Int32)), .unset] [(.int (1 : Int32)), (.int (w30 >>> ((1 : Int32) &&& 31)))])) _
    refine XS.iand X28.here hx rfl (hb hby at_118) rfl ?_
    show Steps p.tables e below (T28.setTop (mkF m 119 #[.val (.int p1), .val (.int p2), .val (.ref b3), .val (.ref b22), .val (.int ((p1 &&& (2147483647 : Int32)) % (6 : Int32))), .val (.ref w29), .val (.int (1 : Int32)), .unset] [(.int ((w30 >>> ((1 : Int32) &&& 31)) &&& (1 : Int32)))])) _
    refine XS.ifNo X28.here hx rfl (hb hby at_119) rfl ((if0 _ _).trans (feq hc119).1) ?_
    show Steps p.tables e below (T28.setTop (mkF m 122 #[.val (.int p1), .val (.int p2), .val (.ref b3), .val (.ref b22), .val (.int ((p1 &&& (2147483647 : Int32)) % (6 : Int32))), .val (.ref w29), .val (.int (1 : Int32)), .unset] [])) _
    refine XS.iconst X28.here hx rfl (hb hby at_122) ?_
    show Steps p.tables e below (T28.setTop (mkF m 123 #[.val (.int p1), .val (.int p2), .val (.ref b3), .val (.ref b22), .val (.int ((p1 &&& (2147483647 : Int32)) % (6 : Int32))), .val (.ref w29), .val (.int (1 : Int32)), .unset] [(.int (1 : Int32))])) _
    refine XS.goto X28.here hx rfl (pc0 := 123) (pc' := 127) rfl (hb hby at_123) (by decide) (by decide) ?_
    show Steps p.tables e below (T28.setTop (mkF m 127 #[.val (.int p1), .val (.int p2), .val (.ref b3), .val (.ref b22), .val (.int ((p1 &&& (2147483647 : Int32)) % (6 : Int32))), .val (.ref w29), .val (.int (1 : Int32)), .unset] [(.int (1 : Int32))])) _
    refine XS.istore X28.here hx rfl (hb hby at_127) rfl (l' := #[.val (.int p1), .val (.int p2), .val (.ref b3), .val (.ref b22), .val (.int ((p1 &&& (2147483647 : Int32)) % (6 : Int32))), .val (.ref w29), .val (.int (1 : Int32)), .val (.int (1 : Int32))]) rfl ?_
    show Steps p.tables e below (T28.setTop (mkF m 129 #[.val (.int p1), .val (.int p2), .val (.ref b3), .val (.ref b22), .val (.int ((p1 &&& (2147483647 : Int32)) % (6 : Int32))), .val (.ref w29), .val (.int (1 : Int32)), .val (.int (1 : Int32))] [])) _
    refine XS.aload X28.here hx rfl (hb hby at_129) rfl rfl ?_
    show Steps p.tables e below (T28.setTop (mkF m 131 #[.val (.int p1), .val (.int p2), .val (.ref b3), .val (.ref b22), .val (.int ((p1 &&& (2147483647 : Int32)) % (6 : Int32))), .val (.ref w29), .val (.int (1 : Int32)), .val (.int (1 : Int32))] [(.ref w29)])) _
    refine XS.iloadN X28.here hx rfl (hb hby at_131) rfl ?_
    show Steps p.tables e below (T28.setTop (mkF m 132 #[.val (.int p1), .val (.int p2), .val (.ref b3), .val (.ref b22), .val (.int ((p1 &&& (2147483647 : Int32)) % (6 : Int32))), .val (.ref w29), .val (.int (1 : Int32)), .val (.int (1 : Int32))] [(.int p2), (.ref w29)])) _
    refine st31.trans ?_
    show Steps p.tables e below (T31.setTop (mkF m 135 #[.val (.int p1), .val (.int p2), .val (.ref b3), .val (.ref b22), .val (.int ((p1 &&& (2147483647 : Int32)) % (6 : Int32))), .val (.ref w29), .val (.int (1 : Int32)), .val (.int (1 : Int32))] [(.int (1 : Int32))])) _
    refine XS.iload X31.here hx rfl (hb hby at_135) rfl ?_
    show Steps p.tables e below (T31.setTop (mkF m 137 #[.val (.int p1), .val (.int p2), .val (.ref b3), .val (.ref b22), .val (.int ((p1 &&& (2147483647 : Int32)) % (6 : Int32))), .val (.ref w29), .val (.int (1 : Int32)), .val (.int (1 : Int32))] [(.int (1 : Int32)), (.int (1 : Int32))])) _
    refine XS.icmpNo X31.here hx rfl (hb hby at_137) rfl (teq (rfl : (1 : Int32) = (1 : Int32))).2 ?_
    show Steps p.tables e below (T31.setTop (mkF m 140 #[.val (.int p1), .val (.int p2), .val (.ref b3), .val (.ref b22), .val (.int ((p1 &&& (2147483647 : Int32)) % (6 : Int32))), .val (.ref w29), .val (.int (1 : Int32)), .val (.int (1 : Int32))] [])) _
    refine XS.iconst X31.here hx rfl (hb hby at_140) ?_
    show Steps p.tables e below (T31.setTop (mkF m 141 #[.val (.int p1), .val (.int p2), .val (.ref b3), .val (.ref b22), .val (.int ((p1 &&& (2147483647 : Int32)) % (6 : Int32))), .val (.ref w29), .val (.int (1 : Int32)), .val (.int (1 : Int32))] [(.int (1 : Int32))])) _
    refine XS.goto X31.here hx rfl (pc0 := 141) (pc' := 145) rfl (hb hby at_141) (by decide) (by decide) ?_
    show Steps p.tables e below (T31.setTop (mkF m 145 #[.val (.int p1), .val (.int p2), .val (.ref b3), .val (.ref b22), .val (.int ((p1 &&& (2147483647 : Int32)) % (6 : Int32))), .val (.ref w29), .val (.int (1 : Int32)), .val (.int (1 : Int32))] [(.int (1 : Int32))])) _
    exact retN X31 hx (t := .boolean) Bd.returns (by simp) (hb hby at_145) hr
  · show Q0 n0 _ _
    exact ⟨rfl, N31⟩
set_option maxRecDepth 65536 in
set_option maxHeartbeats 40000000 in
theorem rm0_20 (l : Launch) (Z : State) (a0 : Array Value) (hw : ∀ d ∈ tables_1, d.before a0 Z = true) (ws : List Jvm.Cond) (p1 : Int32) (p2 : Int32) (w4 : Addr) (w7 : Addr) (w10 : Addr) (w13 : Addr) (w16 : Addr) (w19 : Addr) (w29 : Addr) (w30 : Int32) (h0 : Heap) (n0 : Nat) (Z0 : n0 ≤ h0.size) (S_EQUAL : Sta Z h0 "com/example/quantorum/quantorum/algebra/Relation" "EQUAL" "Lcom/example/quantorum/quantorum/algebra/Relation;" (.ref w4)) (E_w4 : Exa Z h0 w4 "com/example/quantorum/quantorum/algebra/Relation") (S_NOT_EQUAL : Sta Z h0 "com/example/quantorum/quantorum/algebra/Relation" "NOT_EQUAL" "Lcom/example/quantorum/quantorum/algebra/Relation;" (.ref w7)) (E_w7 : Exa Z h0 w7 "com/example/quantorum/quantorum/algebra/Relation") (S_LESS : Sta Z h0 "com/example/quantorum/quantorum/algebra/Relation" "LESS" "Lcom/example/quantorum/quantorum/algebra/Relation;" (.ref w10)) (E_w10 : Exa Z h0 w10 "com/example/quantorum/quantorum/algebra/Relation") (S_LESS_OR_EQUAL : Sta Z h0 "com/example/quantorum/quantorum/algebra/Relation" "LESS_OR_EQUAL" "Lcom/example/quantorum/quantorum/algebra/Relation;" (.ref w13)) (E_w13 : Exa Z h0 w13 "com/example/quantorum/quantorum/algebra/Relation") (S_GREATER : Sta Z h0 "com/example/quantorum/quantorum/algebra/Relation" "GREATER" "Lcom/example/quantorum/quantorum/algebra/Relation;" (.ref w16)) (E_w16 : Exa Z h0 w16 "com/example/quantorum/quantorum/algebra/Relation") (S_GREATER_OR_EQUAL : Sta Z h0 "com/example/quantorum/quantorum/algebra/Relation" "GREATER_OR_EQUAL" "Lcom/example/quantorum/quantorum/algebra/Relation;" (.ref w19)) (E_w19 : Exa Z h0 w19 "com/example/quantorum/quantorum/algebra/Relation") (hlo84 : ¬ ((p1 &&& (2147483647 : Int32)) % (6 : Int32)) < 0 ∧ ((p1 &&& (2147483647 : Int32)) % (6 : Int32)) < (6 : Int32)) (hel84 : ([(.ref w4), (.ref w7), (.ref w10), (.ref w13), (.ref w16), (.ref w19)] : List Value).getD (((p1 &&& (2147483647 : Int32)) % (6 : Int32))).toNatClampNeg .null = (.ref w29)) (hlo113 : ¬ ((p1 &&& (2147483647 : Int32)) % (6 : Int32)) < 0 ∧ ((p1 &&& (2147483647 : Int32)) % (6 : Int32)) < (6 : Int32)) (hel113 : ([(.int (2 : Int32)), (.int (5 : Int32)), (.int (1 : Int32)), (.int (3 : Int32)), (.int (4 : Int32)), (.int (6 : Int32))] : List Value).getD (((p1 &&& (2147483647 : Int32)) % (6 : Int32))).toNatClampNeg (.int (0 : Int32)) = (.int w30)) (E_w29 : Exa Z h0 w29 "com/example/quantorum/quantorum/algebra/Relation") (hcall : ∀ h, Keep h0 h [] → n0 ≤ h.size → own_Call l Z w29 p2 (0 : Int32) h n0) (hc88 : ¬ (p2 < (0 : Int32))) (hc98 : ¬ (p2 = (0 : Int32))) (hc119 : ((w30 >>> ((2 : Int32) &&& 31)) &&& (1 : Int32)) = (0 : Int32)) :
    MetFree l x (head1 (Jvm.Cond.code x code maxLocals ret :: ws) room_1) (fun a U => a = #[(.int p1), (.int p2)] ∧ Z.Warmed39 U.vm ∧ U.heap = h0) (fun _ _ _ _ _ => True) (fun _ U o U' => ∃ v L, o = .returned v ∧ Q0 n0 v L ∧ FrameEnd U o U' L room_1.cells room_1.slots) := by
  refine MetFree.of_bodySF (plainFor_of_name pn_0) hisR ?_
  intro p e s m args below meth c s₁ Bd hml0 hP hK
  obtain ⟨rfl, hZ, hh⟩ := hP
  have hx := Bd.exec
  have hby := Bd.bytes
  have hml : c.maxLocals = 8 := hml0
  have hown : s.vm.findClass "com/example/quantorum/quantorum/algebra/RelationHoldsPinLaw" = some m.cls := findClass_of_methodNamed Bd.named
  have hnm := (name_of_methodNamed Bd.named Bd.method).1
  have X0 : Stand p l e room_1 s m #[(.int p1), (.int p2)] below meth c s₁ [] 0 0 := Stand.of_body Bd
  have e0 : s₁.heap = h0 := by rw [← hh, Bd.state]; rfl
  have N0 := Fr.nil n0
  have pre0 : ∀ t, Steps p.tables e below (s₁.setTop (mkF m 0 #[.val (.int p1), .val (.int p2), .unset, .unset, .unset, .unset, .unset, .unset] [])) t → Steps p.tables e below (s₁.setTop (entryFrame m #[(.int p1), (.int p2)] maxLocals)) t := fun t k => castTop (ef_0 m p1 p2) k
  obtain ⟨T3, h3, k3, X3, e3, E3, A3, O3, st3⟩ := newR X0 hx hZ hown (hw _ (List.mem_of_getElem? (i := 0) rfl)) (hw _ (List.mem_of_getElem? (i := 1) rfl)) e0 (g := (mkF m 2 #[.val (.int p1), .val (.int p2), .unset, .unset, .unset, .unset, .unset, .unset] [(.int (6 : Int32))])) rfl (hb hby at_2) rfl (by decide) (cap := 6) (by decide) (by decide) (by decide) (by decide)
  obtain ⟨b3, g3⟩ : ∃ z, z = h0.size := ⟨_, rfl⟩      -- the fresh array's address
  rw [← g3] at A3 st3
  have V_b3 : Arv Z h3 b3 k3 (.object "com/example/quantorum/quantorum/algebra/Relation") (6 : Int32) [.null, .null, .null, .null, .null, .null] .null := (Arv.new A3 (by decide)).pad (pad_rep [] .null 6)
  have g_b3 : n0 ≤ b3 := Nat.le_trans Z0 (Nat.le_of_eq g3.symm)
  have sz_b3 : h0.size ≤ b3 := (Nat.le_trans (Keep.refl h0 []).1 (Nat.le_of_eq g3.symm))
  have K3 : Keep h0 h3 [] := (Keep.refl h0 []).ext E3
  obtain ⟨T5, X5, e5, st5⟩ := getS2 X3 hx hZ hown (host := "") (Or.inl (hw _ (List.mem_of_getElem? (i := 2) rfl))) Via.refl e3 (S_EQUAL.ext (own_ext K3)) (g := (mkF m 7 #[.val (.int p1), .val (.int p2), .unset, .unset, .unset, .unset, .unset, .unset] [(.int (0 : Int32)), (.ref b3), (.ref b3)])) rfl (hb hby at_7)
  obtain ⟨cl_b3_10, Ar_b3, q_b3, S_b3, N_b3, H_b3, G_b3⟩ := V_b3
  have hin10 : ¬ ((0 : Int32) < 0 ∨ cl_b3_10.slots.size ≤ ((0 : Int32)).toNatClampNeg) := inb_of S_b3 ⟨by decide, by decide⟩
  have Sto10 : Sto Z h3 b3 (.ref w4) := Sto.ofV Ar_b3 q_b3 O3 (Ins.self (E_w4.keep K3))
  obtain ⟨T6, h6, X6, e6, W6, st6⟩ := stR X5 hx hZ e5 Ar_b3 (j := (0 : Int32)) hin10 rfl Sto10 (g := (mkF m 10 #[.val (.int p1), .val (.int p2), .unset, .unset, .unset, .unset, .unset, .unset] [(.ref w4), (.int (0 : Int32)), (.ref b3), (.ref b3)])) rfl rfl (hb hby at_10)
  have V_b3_6 := Arv.set Ar_b3 q_b3 S_b3 N_b3 H_b3 G_b3 rfl W6 0 rfl (Nat.le_of_ble_eq_true rfl)
  have K6 : Keep h0 h6 [] := K3.wr W6 (Or.inr sz_b3)
  have N6 := Fr.snoc X6 N0 g_b3
  obtain ⟨T8, X8, e8, st8⟩ := getS2 X6 hx hZ hown (host := "") (Or.inl (hw _ (List.mem_of_getElem? (i := 6) rfl))) Via.refl e6 (S_NOT_EQUAL.ext (own_ext K6)) (g := (mkF m 13 #[.val (.int p1), .val (.int p2), .unset, .unset, .unset, .unset, .unset, .unset] [(.int (1 : Int32)), (.ref b3), (.ref b3)])) rfl (hb hby at_13)
  obtain ⟨cl_b3_16, Ar_b3, q_b3, S_b3, N_b3, H_b3, G_b3⟩ := V_b3_6
  have hin16 : ¬ ((1 : Int32) < 0 ∨ cl_b3_16.slots.size ≤ ((1 : Int32)).toNatClampNeg) := inb_of S_b3 ⟨by decide, by decide⟩
  have Sto16 : Sto Z h6 b3 (.ref w7) := Sto.ofV Ar_b3 q_b3 O3 (Ins.self (E_w7.keep K6))
  obtain ⟨T9, h9, X9, e9, W9, st9⟩ := stR X8 hx hZ e8 Ar_b3 (j := (1 : Int32)) hin16 rfl Sto16 (g := (mkF m 16 #[.val (.int p1), .val (.int p2), .unset, .unset, .unset, .unset, .unset, .unset] [(.ref w7), (.int (1 : Int32)), (.ref b3), (.ref b3)])) rfl rfl (hb hby at_16)
  have V_b3_9 := Arv.set Ar_b3 q_b3 S_b3 N_b3 H_b3 G_b3 rfl W9 1 rfl (Nat.le_of_ble_eq_true rfl)
  have K9 : Keep h0 h9 [] := K6.wr W9 (Or.inr sz_b3)
  have N9 := Fr.snoc X9 N6 g_b3
  obtain ⟨T11, X11, e11, st11⟩ := getS2 X9 hx hZ hown (host := "") (Or.inl (hw _ (List.mem_of_getElem? (i := 8) rfl))) Via.refl e9 (S_LESS.ext (own_ext K9)) (g := (mkF m 19 #[.val (.int p1), .val (.int p2), .unset, .unset, .unset, .unset, .unset, .unset] [(.int (2 : Int32)), (.ref b3), (.ref b3)])) rfl (hb hby at_19)
  obtain ⟨cl_b3_22, Ar_b3, q_b3, S_b3, N_b3, H_b3, G_b3⟩ := V_b3_9
  have hin22 : ¬ ((2 : Int32) < 0 ∨ cl_b3_22.slots.size ≤ ((2 : Int32)).toNatClampNeg) := inb_of S_b3 ⟨by decide, by decide⟩
  have Sto22 : Sto Z h9 b3 (.ref w10) := Sto.ofV Ar_b3 q_b3 O3 (Ins.self (E_w10.keep K9))
  obtain ⟨T12, h12, X12, e12, W12, st12⟩ := stR X11 hx hZ e11 Ar_b3 (j := (2 : Int32)) hin22 rfl Sto22 (g := (mkF m 22 #[.val (.int p1), .val (.int p2), .unset, .unset, .unset, .unset, .unset, .unset] [(.ref w10), (.int (2 : Int32)), (.ref b3), (.ref b3)])) rfl rfl (hb hby at_22)
  have V_b3_12 := Arv.set Ar_b3 q_b3 S_b3 N_b3 H_b3 G_b3 rfl W12 2 rfl (Nat.le_of_ble_eq_true rfl)
  have K12 : Keep h0 h12 [] := K9.wr W12 (Or.inr sz_b3)
  have N12 := Fr.snoc X12 N9 g_b3
  obtain ⟨T14, X14, e14, st14⟩ := getS2 X12 hx hZ hown (host := "") (Or.inl (hw _ (List.mem_of_getElem? (i := 10) rfl))) Via.refl e12 (S_LESS_OR_EQUAL.ext (own_ext K12)) (g := (mkF m 25 #[.val (.int p1), .val (.int p2), .unset, .unset, .unset, .unset, .unset, .unset] [(.int (3 : Int32)), (.ref b3), (.ref b3)])) rfl (hb hby at_25)
  obtain ⟨cl_b3_28, Ar_b3, q_b3, S_b3, N_b3, H_b3, G_b3⟩ := V_b3_12
  have hin28 : ¬ ((3 : Int32) < 0 ∨ cl_b3_28.slots.size ≤ ((3 : Int32)).toNatClampNeg) := inb_of S_b3 ⟨by decide, by decide⟩
  have Sto28 : Sto Z h12 b3 (.ref w13) := Sto.ofV Ar_b3 q_b3 O3 (Ins.self (E_w13.keep K12))
  obtain ⟨T15, h15, X15, e15, W15, st15⟩ := stR X14 hx hZ e14 Ar_b3 (j := (3 : Int32)) hin28 rfl Sto28 (g := (mkF m 28 #[.val (.int p1), .val (.int p2), .unset, .unset, .unset, .unset, .unset, .unset] [(.ref w13), (.int (3 : Int32)), (.ref b3), (.ref b3)])) rfl rfl (hb hby at_28)
  have V_b3_15 := Arv.set Ar_b3 q_b3 S_b3 N_b3 H_b3 G_b3 rfl W15 3 rfl (Nat.le_of_ble_eq_true rfl)
  have K15 : Keep h0 h15 [] := K12.wr W15 (Or.inr sz_b3)
  have N15 := Fr.snoc X15 N12 g_b3
  obtain ⟨T17, X17, e17, st17⟩ := getS2 X15 hx hZ hown (host := "") (Or.inl (hw _ (List.mem_of_getElem? (i := 12) rfl))) Via.refl e15 (S_GREATER.ext (own_ext K15)) (g := (mkF m 31 #[.val (.int p1), .val (.int p2), .unset, .unset, .unset, .unset, .unset, .unset] [(.int (4 : Int32)), (.ref b3), (.ref b3)])) rfl (hb hby at_31)
  obtain ⟨cl_b3_34, Ar_b3, q_b3, S_b3, N_b3, H_b3, G_b3⟩ := V_b3_15
  have hin34 : ¬ ((4 : Int32) < 0 ∨ cl_b3_34.slots.size ≤ ((4 : Int32)).toNatClampNeg) := inb_of S_b3 ⟨by decide, by decide⟩
  have Sto34 : Sto Z h15 b3 (.ref w16) := Sto.ofV Ar_b3 q_b3 O3 (Ins.self (E_w16.keep K15))
  obtain ⟨T18, h18, X18, e18, W18, st18⟩ := stR X17 hx hZ e17 Ar_b3 (j := (4 : Int32)) hin34 rfl Sto34 (g := (mkF m 34 #[.val (.int p1), .val (.int p2), .unset, .unset, .unset, .unset, .unset, .unset] [(.ref w16), (.int (4 : Int32)), (.ref b3), (.ref b3)])) rfl rfl (hb hby at_34)
  have V_b3_18 := Arv.set Ar_b3 q_b3 S_b3 N_b3 H_b3 G_b3 rfl W18 4 rfl (Nat.le_of_ble_eq_true rfl)
  have K18 : Keep h0 h18 [] := K15.wr W18 (Or.inr sz_b3)
  have N18 := Fr.snoc X18 N15 g_b3
  obtain ⟨T20, X20, e20, st20⟩ := getS2 X18 hx hZ hown (host := "") (Or.inl (hw _ (List.mem_of_getElem? (i := 14) rfl))) Via.refl e18 (S_GREATER_OR_EQUAL.ext (own_ext K18)) (g := (mkF m 37 #[.val (.int p1), .val (.int p2), .unset, .unset, .unset, .unset, .unset, .unset] [(.int (5 : Int32)), (.ref b3), (.ref b3)])) rfl (hb hby at_37)
  obtain ⟨cl_b3_40, Ar_b3, q_b3, S_b3, N_b3, H_b3, G_b3⟩ := V_b3_18
  have hin40 : ¬ ((5 : Int32) < 0 ∨ cl_b3_40.slots.size ≤ ((5 : Int32)).toNatClampNeg) := inb_of S_b3 ⟨by decide, by decide⟩
  have Sto40 : Sto Z h18 b3 (.ref w19) := Sto.ofV Ar_b3 q_b3 O3 (Ins.self (E_w19.keep K18))
  obtain ⟨T21, h21, X21, e21, W21, st21⟩ := stR X20 hx hZ e20 Ar_b3 (j := (5 : Int32)) hin40 rfl Sto40 (g := (mkF m 40 #[.val (.int p1), .val (.int p2), .unset, .unset, .unset, .unset, .unset, .unset] [(.ref w19), (.int (5 : Int32)), (.ref b3), (.ref b3)])) rfl rfl (hb hby at_40)
  have V_b3_21 := Arv.set Ar_b3 q_b3 S_b3 N_b3 H_b3 G_b3 rfl W21 5 rfl (Nat.le_of_ble_eq_true rfl)
  have K21 : Keep h0 h21 [] := K18.wr W21 (Or.inr sz_b3)
  have N21 := Fr.snoc X21 N18 g_b3
  obtain ⟨T22, h22, k22, X22, e22, E22, A22, st22⟩ := newP X21 hx hZ (hw _ (List.mem_of_getElem? (i := 16) rfl)) e21 (g := (mkF m 44 #[.val (.int p1), .val (.int p2), .val (.ref b3), .unset, .unset, .unset, .unset, .unset] [(.int (6 : Int32))])) rfl (hb hby at_44) rfl (by decide) (cap := 6) (by decide) (by decide) (by decide) (by decide)
  obtain ⟨b22, g22⟩ : ∃ z, z = h21.size := ⟨_, rfl⟩      -- the fresh array's address
  rw [← g22] at A22 st22
  have V_b22 : Arv Z h22 b22 k22 .int (6 : Int32) [(.int (0 : Int32)), (.int (0 : Int32)), (.int (0 : Int32)), (.int (0 : Int32)), (.int (0 : Int32)), (.int (0 : Int32))] (.int (0 : Int32)) := (Arv.new A22 (by decide)).pad (pad_rep [] (.int (0 : Int32)) 6)
  have g_b22 : n0 ≤ b22 := Nat.le_trans (Nat.le_trans (Nat.le_trans (Nat.le_trans (Nat.le_trans (Nat.le_trans (Nat.le_trans (Nat.le_trans Z0 E3.1) (Keep.of_wr W6).1) (Keep.of_wr W9).1) (Keep.of_wr W12).1) (Keep.of_wr W15).1) (Keep.of_wr W18).1) (Keep.of_wr W21).1) (Nat.le_of_eq g22.symm)
  have sz_b22 : h0.size ≤ b22 := (Nat.le_trans K21.1 (Nat.le_of_eq g22.symm))
  have K22 : Keep h0 h22 [] := K21.ext E22
  obtain ⟨cl_b22_49, Ar_b22, q_b22, S_b22, N_b22, H_b22, G_b22⟩ := V_b22      -- open the array's fact as it stands now (its cell, kind, length, elements)
  have hin49 : ¬ ((0 : Int32) < 0 ∨ cl_b22_49.slots.size ≤ ((0 : Int32)).toNatClampNeg) := inb_of S_b22 ⟨by decide, by decide⟩
  obtain ⟨T23, h23, X23, e23, W23, st23⟩ := stI X22 hx hZ e22 Ar_b22 (j := (0 : Int32)) hin49 (g := (mkF m 49 #[.val (.int p1), .val (.int p2), .val (.ref b3), .unset, .unset, .unset, .unset, .unset] [(.int (2 : Int32)), (.int (0 : Int32)), (.ref b22), (.ref b22)])) rfl rfl (hb hby at_49)
  have V_b22_23 := Arv.set Ar_b22 q_b22 S_b22 N_b22 H_b22 G_b22 rfl W23 0 rfl (Nat.le_of_ble_eq_true rfl)      -- the array as it stands now (the place must lie among its first values: Arv.pad with pad_rep lengthens them)
  have K23 : Keep h0 h23 [] := K22.wr W23 (Or.inr sz_b22)
  have N23 := Fr.snoc X23 N21 g_b22
  obtain ⟨cl_b22_53, Ar_b22, q_b22, S_b22, N_b22, H_b22, G_b22⟩ := V_b22_23      -- open the array's fact as it stands now (its cell, kind, length, elements)
  have hin53 : ¬ ((1 : Int32) < 0 ∨ cl_b22_53.slots.size ≤ ((1 : Int32)).toNatClampNeg) := inb_of S_b22 ⟨by decide, by decide⟩
  obtain ⟨T24, h24, X24, e24, W24, st24⟩ := stI X23 hx hZ e23 Ar_b22 (j := (1 : Int32)) hin53 (g := (mkF m 53 #[.val (.int p1), .val (.int p2), .val (.ref b3), .unset, .unset, .unset, .unset, .unset] [(.int (5 : Int32)), (.int (1 : Int32)), (.ref b22), (.ref b22)])) rfl rfl (hb hby at_53)
  have V_b22_24 := Arv.set Ar_b22 q_b22 S_b22 N_b22 H_b22 G_b22 rfl W24 1 rfl (Nat.le_of_ble_eq_true rfl)      -- the array as it stands now (the place must lie among its first values: Arv.pad with pad_rep lengthens them)
  have K24 : Keep h0 h24 [] := K23.wr W24 (Or.inr sz_b22)
  have N24 := Fr.snoc X24 N23 g_b22
  obtain ⟨cl_b22_57, Ar_b22, q_b22, S_b22, N_b22, H_b22, G_b22⟩ := V_b22_24      -- open the array's fact as it stands now (its cell, kind, length, elements)
  have hin57 : ¬ ((2 : Int32) < 0 ∨ cl_b22_57.slots.size ≤ ((2 : Int32)).toNatClampNeg) := inb_of S_b22 ⟨by decide, by decide⟩
  obtain ⟨T25, h25, X25, e25, W25, st25⟩ := stI X24 hx hZ e24 Ar_b22 (j := (2 : Int32)) hin57 (g := (mkF m 57 #[.val (.int p1), .val (.int p2), .val (.ref b3), .unset, .unset, .unset, .unset, .unset] [(.int (1 : Int32)), (.int (2 : Int32)), (.ref b22), (.ref b22)])) rfl rfl (hb hby at_57)
  have V_b22_25 := Arv.set Ar_b22 q_b22 S_b22 N_b22 H_b22 G_b22 rfl W25 2 rfl (Nat.le_of_ble_eq_true rfl)      -- the array as it stands now (the place must lie among its first values: Arv.pad with pad_rep lengthens them)
  have K25 : Keep h0 h25 [] := K24.wr W25 (Or.inr sz_b22)
  have N25 := Fr.snoc X25 N24 g_b22
  obtain ⟨cl_b22_61, Ar_b22, q_b22, S_b22, N_b22, H_b22, G_b22⟩ := V_b22_25      -- open the array's fact as it stands now (its cell, kind, length, elements)
  have hin61 : ¬ ((3 : Int32) < 0 ∨ cl_b22_61.slots.size ≤ ((3 : Int32)).toNatClampNeg) := inb_of S_b22 ⟨by decide, by decide⟩
  obtain ⟨T26, h26, X26, e26, W26, st26⟩ := stI X25 hx hZ e25 Ar_b22 (j := (3 : Int32)) hin61 (g := (mkF m 61 #[.val (.int p1), .val (.int p2), .val (.ref b3), .unset, .unset, .unset, .unset, .unset] [(.int (3 : Int32)), (.int (3 : Int32)), (.ref b22), (.ref b22)])) rfl rfl (hb hby at_61)
  have V_b22_26 := Arv.set Ar_b22 q_b22 S_b22 N_b22 H_b22 G_b22 rfl W26 3 rfl (Nat.le_of_ble_eq_true rfl)      -- the array as it stands now (the place must lie among its first values: Arv.pad with pad_rep lengthens them)
  have K26 : Keep h0 h26 [] := K25.wr W26 (Or.inr sz_b22)
  have N26 := Fr.snoc X26 N25 g_b22
  obtain ⟨cl_b22_65, Ar_b22, q_b22, S_b22, N_b22, H_b22, G_b22⟩ := V_b22_26      -- open the array's fact as it stands now (its cell, kind, length, elements)
  have hin65 : ¬ ((4 : Int32) < 0 ∨ cl_b22_65.slots.size ≤ ((4 : Int32)).toNatClampNeg) := inb_of S_b22 ⟨by decide, by decide⟩
  obtain ⟨T27, h27, X27, e27, W27, st27⟩ := stI X26 hx hZ e26 Ar_b22 (j := (4 : Int32)) hin65 (g := (mkF m 65 #[.val (.int p1), .val (.int p2), .val (.ref b3), .unset, .unset, .unset, .unset, .unset] [(.int (4 : Int32)), (.int (4 : Int32)), (.ref b22), (.ref b22)])) rfl rfl (hb hby at_65)
  have V_b22_27 := Arv.set Ar_b22 q_b22 S_b22 N_b22 H_b22 G_b22 rfl W27 4 rfl (Nat.le_of_ble_eq_true rfl)      -- the array as it stands now (the place must lie among its first values: Arv.pad with pad_rep lengthens them)
  have K27 : Keep h0 h27 [] := K26.wr W27 (Or.inr sz_b22)
  have N27 := Fr.snoc X27 N26 g_b22
  obtain ⟨cl_b22_70, Ar_b22, q_b22, S_b22, N_b22, H_b22, G_b22⟩ := V_b22_27      -- open the array's fact as it stands now (its cell, kind, length, elements)
  have hin70 : ¬ ((5 : Int32) < 0 ∨ cl_b22_70.slots.size ≤ ((5 : Int32)).toNatClampNeg) := inb_of S_b22 ⟨by decide, by decide⟩
  obtain ⟨T28, h28, X28, e28, W28, st28⟩ := stI X27 hx hZ e27 Ar_b22 (j := (5 : Int32)) hin70 (g := (mkF m 70 #[.val (.int p1), .val (.int p2), .val (.ref b3), .unset, .unset, .unset, .unset, .unset] [(.int (6 : Int32)), (.int (5 : Int32)), (.ref b22), (.ref b22)])) rfl rfl (hb hby at_70)
  have V_b22_28 := Arv.set Ar_b22 q_b22 S_b22 N_b22 H_b22 G_b22 rfl W28 5 rfl (Nat.le_of_ble_eq_true rfl)      -- the array as it stands now (the place must lie among its first values: Arv.pad with pad_rep lengthens them)
  have K28 : Keep h0 h28 [] := K27.wr W28 (Or.inr sz_b22)
  have N28 := Fr.snoc X28 N27 g_b22
  obtain ⟨cl_b3_84, Ar_b3_84, -, S_b3_84, -, H_b3_84, -⟩ := (((((((V_b3_21.ext E22).other W23 (Nat.ne_of_lt (Nat.lt_of_lt_of_le V_b3_21.lt (Nat.le_of_eq g22.symm)))).other W24 (Nat.ne_of_lt (Nat.lt_of_lt_of_le V_b3_21.lt (Nat.le_of_eq g22.symm)))).other W25 (Nat.ne_of_lt (Nat.lt_of_lt_of_le V_b3_21.lt (Nat.le_of_eq g22.symm)))).other W26 (Nat.ne_of_lt (Nat.lt_of_lt_of_le V_b3_21.lt (Nat.le_of_eq g22.symm)))).other W27 (Nat.ne_of_lt (Nat.lt_of_lt_of_le V_b3_21.lt (Nat.le_of_eq g22.symm)))).other W28 (Nat.ne_of_lt (Nat.lt_of_lt_of_le V_b3_21.lt (Nat.le_of_eq g22.symm))))
  have hin84 : ¬ (((p1 &&& (2147483647 : Int32)) % (6 : Int32)) < 0 ∨ cl_b3_84.slots.size ≤ (((p1 &&& (2147483647 : Int32)) % (6 : Int32))).toNatClampNeg) := inb_of S_b3_84 hlo84
  have hat84 : cl_b3_84.slots[(((p1 &&& (2147483647 : Int32)) % (6 : Int32))).toNatClampNeg]? = some (.ref w29) := (H_b3_84 _ (Nat.lt_of_not_le fun q => hin84 (Or.inr q))).trans (congrArg some hel84)
  obtain ⟨cl_b22_113, Ar_b22_113, -, S_b22_113, -, H_b22_113, -⟩ := V_b22_28
  have hin113 : ¬ (((p1 &&& (2147483647 : Int32)) % (6 : Int32)) < 0 ∨ cl_b22_113.slots.size ≤ (((p1 &&& (2147483647 : Int32)) % (6 : Int32))).toNatClampNeg) := inb_of S_b22_113 hlo113
  have hat113 : cl_b22_113.slots[(((p1 &&& (2147483647 : Int32)) % (6 : Int32))).toNatClampNeg]? = some (.int w30) := (H_b22_113 _ (Nat.lt_of_not_le fun q => hin113 (Or.inr q))).trans (congrArg some hel113)
  obtain ⟨cq31, kq31, q31a, q31b, q31c⟩ := isOf hZ e28 ((((((((((((((E_w29.ext E3).wr W6).wr W9).wr W12).wr W15).wr W18).wr W21).ext E22).wr W23).wr W24).wr W25).wr W26).wr W27).wr W28)
  obtain ⟨_, _, ⟨T31, L31, k31, n31⟩, -, X31, ⟨Lc31, hQ31, l31, y31, z31⟩, st31⟩ := X28.virtualBack hx (y := (⟨"com/example/quantorum/quantorum/algebra/Relation", "holds", "(I)Z"⟩ : MethodName)) (z := (⟨"com/example/quantorum/quantorum/algebra/Relation", "holds", "(I)Z"⟩ : MethodName)) hown (mvT hZ (hw _ (List.mem_of_getElem? (i := 18) rfl))) (mvT hZ (hw _ (List.mem_of_getElem? (i := 19) rfl))) (notFace_of_selects (args := #[]) (mvT hZ (hw _ (List.mem_of_getElem? (i := 21) rfl)))) (mvT hZ (hw _ (List.mem_of_getElem? (i := 21) rfl))) (mvT hZ (hw _ (List.mem_of_getElem? (i := 20) rfl))) (by decide) (backOf (W := 0) (hcall h28 K28 (Nat.le_trans Z0 K28.1)) hZ (hw _ (List.mem_of_getElem? (i := 22) rfl)) (hw _ (List.mem_of_getElem? (i := 3) rfl)) (by decide) (by decide)) q31a q31c (g := (mkF m 132 #[.val (.int p1), .val (.int p2), .val (.ref b3), .val (.ref b22), .val (.int ((p1 &&& (2147483647 : Int32)) % (6 : Int32))), .val (.ref w29), .val (.int (2 : Int32)), .val (.int (0 : Int32))] [(.int p2), (.ref w29)])) rfl (by rw [hml]; rfl) (Steps.refl _) (argsL := [(.int p2)]) (rest := []) (lenOf pd_0_0 rfl) rfl (by show 2 * 0 + _ ≤ _; exact Nat.le_of_eq rfl) (hb hby at_132) (fun _ _ => ⟨rfl, e28, (by decide : 2 + 0 ≤ _), (by decide : 12 + 0 ≤ _)⟩)
  dsimp only [Pt.U, Pt.locs, Pt.cells, Pt.slots] at X31 l31 y31 z31 st31 hQ31
  subst l31 y31 z31
  obtain ⟨rfl, N31q, e31⟩ := hQ31
  have N31 := Fr.app N28 N31q
  obtain ⟨fs, hr, hrun, hended, hW, hsame⟩ := X31.leave (v := some (.int (1 : Int32))) (fun h => by rw [Bd.returns] at h; cases h)
  refine ⟨_, _, pre0 _ ?_, hrun, hended, _, _, rfl, ?_, ⟨_, rfl⟩, hW, hsame.mono (by decide) (by decide)⟩
  · show Steps p.tables e below (s₁.setTop (mkF m 0 #[.val (.int p1), .val (.int p2), .unset, .unset, .unset, .unset, .unset, .unset] [])) _
    refine XS.bipush X0.here hx rfl (hb hby at_0) ?_
    show Steps p.tables e below (s₁.setTop (mkF m 2 #[.val (.int p1), .val (.int p2), .unset, .unset, .unset, .unset, .unset, .unset] [(.int (6 : Int32))])) _
    refine st3 _ ?_
    show Steps p.tables e below (T3.setTop (mkF m 5 #[.val (.int p1), .val (.int p2), .unset, .unset, .unset, .unset, .unset, .unset] [(.ref b3)])) _
    refine XS.dup X3.here hx rfl (hb hby at_5) rfl rfl ?_
    show Steps p.tables e below (T3.setTop (mkF m 6 #[.val (.int p1), .val (.int p2), .unset, .unset, .unset, .unset, .unset, .unset] [(.ref b3), (.ref b3)])) _
    refine XS.iconst X3.here hx rfl (hb hby at_6) ?_
    show Steps p.tables e below (T3.setTop (mkF m 7 #[.val (.int p1), .val (.int p2), .unset, .unset, .unset, .unset, .unset, .unset] [(.int (0 : Int32)), (.ref b3), (.ref b3)])) _
    refine st5 _ ?_
    show Steps p.tables e below (T5.setTop (mkF m 10 #[.val (.int p1), .val (.int p2), .unset, .unset, .unset, .unset, .unset, .unset] [(.ref w4), (.int (0 : Int32)), (.ref b3), (.ref b3)])) _
    refine st6 _ ?_
    show Steps p.tables e below (T6.setTop (mkF m 11 #[.val (.int p1), .val (.int p2), .unset, .unset, .unset, .unset, .unset, .unset] [(.ref b3)])) _
    refine XS.dup X6.here hx rfl (hb hby at_11) rfl rfl ?_
    show Steps p.tables e below (T6.setTop (mkF m 12 #[.val (.int p1), .val (.int p2), .unset, .unset, .unset, .unset, .unset, .unset] [(.ref b3), (.ref b3)])) _
    refine XS.iconst X6.here hx rfl (hb hby at_12) ?_
    show Steps p.tables e below (T6.setTop (mkF m 13 #[.val (.int p1), .val (.int p2), .unset, .unset, .unset, .unset, .unset, .unset] [(.int (1 : Int32)), (.ref b3), (.ref b3)])) _
    refine st8 _ ?_
    show Steps p.tables e below (T8.setTop (mkF m 16 #[.val (.int p1), .val (.int p2), .unset, .unset, .unset, .unset, .unset, .unset] [(.ref w7), (.int (1 : Int32)), (.ref b3), (.ref b3)])) _
    refine st9 _ ?_
    show Steps p.tables e below (T9.setTop (mkF m 17 #[.val (.int p1), .val (.int p2), .unset, .unset, .unset, .unset, .unset, .unset] [(.ref b3)])) _
    refine XS.dup X9.here hx rfl (hb hby at_17) rfl rfl ?_
    show Steps p.tables e below (T9.setTop (mkF m 18 #[.val (.int p1), .val (.int p2), .unset, .unset, .unset, .unset, .unset, .unset] [(.ref b3), (.ref b3)])) _
    refine XS.iconst X9.here hx rfl (hb hby at_18) ?_
    show Steps p.tables e below (T9.setTop (mkF m 19 #[.val (.int p1), .val (.int p2), .unset, .unset, .unset, .unset, .unset, .unset] [(.int (2 : Int32)), (.ref b3), (.ref b3)])) _
    refine st11 _ ?_
    show Steps p.tables e below (T11.setTop (mkF m 22 #[.val (.int p1), .val (.int p2), .unset, .unset, .unset, .unset, .unset, .unset] [(.ref w10), (.int (2 : Int32)), (.ref b3), (.ref b3)])) _
    refine st12 _ ?_
    show Steps p.tables e below (T12.setTop (mkF m 23 #[.val (.int p1), .val (.int p2), .unset, .unset, .unset, .unset, .unset, .unset] [(.ref b3)])) _
    refine XS.dup X12.here hx rfl (hb hby at_23) rfl rfl ?_
    show Steps p.tables e below (T12.setTop (mkF m 24 #[.val (.int p1), .val (.int p2), .unset, .unset, .unset, .unset, .unset, .unset] [(.ref b3), (.ref b3)])) _
    refine XS.iconst X12.here hx rfl (hb hby at_24) ?_
    show Steps p.tables e below (T12.setTop (mkF m 25 #[.val (.int p1), .val (.int p2), .unset, .unset, .unset, .unset, .unset, .unset] [(.int (3 : Int32)), (.ref b3), (.ref b3)])) _
    refine st14 _ ?_
    show Steps p.tables e below (T14.setTop (mkF m 28 #[.val (.int p1), .val (.int p2), .unset, .unset, .unset, .unset, .unset, .unset] [(.ref w13), (.int (3 : Int32)), (.ref b3), (.ref b3)])) _
    refine st15 _ ?_
    show Steps p.tables e below (T15.setTop (mkF m 29 #[.val (.int p1), .val (.int p2), .unset, .unset, .unset, .unset, .unset, .unset] [(.ref b3)])) _
    refine XS.dup X15.here hx rfl (hb hby at_29) rfl rfl ?_
    show Steps p.tables e below (T15.setTop (mkF m 30 #[.val (.int p1), .val (.int p2), .unset, .unset, .unset, .unset, .unset, .unset] [(.ref b3), (.ref b3)])) _
    refine XS.iconst X15.here hx rfl (hb hby at_30) ?_
    show Steps p.tables e below (T15.setTop (mkF m 31 #[.val (.int p1), .val (.int p2), .unset, .unset, .unset, .unset, .unset, .unset] [(.int (4 : Int32)), (.ref b3), (.ref b3)])) _
    refine st17 _ ?_
    show Steps p.tables e below (T17.setTop (mkF m 34 #[.val (.int p1), .val (.int p2), .unset, .unset, .unset, .unset, .unset, .unset] [(.ref w16), (.int (4 : Int32)), (.ref b3), (.ref b3)])) _
    refine st18 _ ?_
    show Steps p.tables e below (T18.setTop (mkF m 35 #[.val (.int p1), .val (.int p2), .unset, .unset, .unset, .unset, .unset, .unset] [(.ref b3)])) _
    refine XS.dup X18.here hx rfl (hb hby at_35) rfl rfl ?_
    show Steps p.tables e below (T18.setTop (mkF m 36 #[.val (.int p1), .val (.int p2), .unset, .unset, .unset, .unset, .unset, .unset] [(.ref b3), (.ref b3)])) _
    refine XS.iconst X18.here hx rfl (hb hby at_36) ?_
    show Steps p.tables e below (T18.setTop (mkF m 37 #[.val (.int p1), .val (.int p2), .unset, .unset, .unset, .unset, .unset, .unset] [(.int (5 : Int32)), (.ref b3), (.ref b3)])) _
    refine st20 _ ?_
    show Steps p.tables e below (T20.setTop (mkF m 40 #[.val (.int p1), .val (.int p2), .unset, .unset, .unset, .unset, .unset, .unset] [(.ref w19), (.int (5 : Int32)), (.ref b3), (.ref b3)])) _
    refine st21 _ ?_
    show Steps p.tables e below (T21.setTop (mkF m 41 #[.val (.int p1), .val (.int p2), .unset, .unset, .unset, .unset, .unset, .unset] [(.ref b3)])) _
    refine XS.astoreN X21.here hx rfl (hb hby at_41) rfl rfl (l' := #[.val (.int p1), .val (.int p2), .val (.ref b3), .unset, .unset, .unset, .unset, .unset]) rfl ?_
    show Steps p.tables e below (T21.setTop (mkF m 42 #[.val (.int p1), .val (.int p2), .val (.ref b3), .unset, .unset, .unset, .unset, .unset] [])) _
    refine XS.bipush X21.here hx rfl (hb hby at_42) ?_
    show Steps p.tables e below (T21.setTop (mkF m 44 #[.val (.int p1), .val (.int p2), .val (.ref b3), .unset, .unset, .unset, .unset, .unset] [(.int (6 : Int32))])) _
    refine st22 _ ?_
    show Steps p.tables e below (T22.setTop (mkF m 46 #[.val (.int p1), .val (.int p2), .val (.ref b3), .unset, .unset, .unset, .unset, .unset] [(.ref b22)])) _
    refine XS.dup X22.here hx rfl (hb hby at_46) rfl rfl ?_
    show Steps p.tables e below (T22.setTop (mkF m 47 #[.val (.int p1), .val (.int p2), .val (.ref b3), .unset, .unset, .unset, .unset, .unset] [(.ref b22), (.ref b22)])) _
    refine XS.iconst X22.here hx rfl (hb hby at_47) ?_
    show Steps p.tables e below (T22.setTop (mkF m 48 #[.val (.int p1), .val (.int p2), .val (.ref b3), .unset, .unset, .unset, .unset, .unset] [(.int (0 : Int32)), (.ref b22), (.ref b22)])) _
    refine XS.iconst X22.here hx rfl (hb hby at_48) ?_
    show Steps p.tables e below (T22.setTop (mkF m 49 #[.val (.int p1), .val (.int p2), .val (.ref b3), .unset, .unset, .unset, .unset, .unset] [(.int (2 : Int32)), (.int (0 : Int32)), (.ref b22), (.ref b22)])) _
    refine st23 _ ?_
    show Steps p.tables e below (T23.setTop (mkF m 50 #[.val (.int p1), .val (.int p2), .val (.ref b3), .unset, .unset, .unset, .unset, .unset] [(.ref b22)])) _
    refine XS.dup X23.here hx rfl (hb hby at_50) rfl rfl ?_
    show Steps p.tables e below (T23.setTop (mkF m 51 #[.val (.int p1), .val (.int p2), .val (.ref b3), .unset, .unset, .unset, .unset, .unset] [(.ref b22), (.ref b22)])) _
    refine XS.iconst X23.here hx rfl (hb hby at_51) ?_
    show Steps p.tables e below (T23.setTop (mkF m 52 #[.val (.int p1), .val (.int p2), .val (.ref b3), .unset, .unset, .unset, .unset, .unset] [(.int (1 : Int32)), (.ref b22), (.ref b22)])) _
    refine XS.iconst X23.here hx rfl (hb hby at_52) ?_
    show Steps p.tables e below (T23.setTop (mkF m 53 #[.val (.int p1), .val (.int p2), .val (.ref b3), .unset, .unset, .unset, .unset, .unset] [(.int (5 : Int32)), (.int (1 : Int32)), (.ref b22), (.ref b22)])) _
    refine st24 _ ?_
    show Steps p.tables e below (T24.setTop (mkF m 54 #[.val (.int p1), .val (.int p2), .val (.ref b3), .unset, .unset, .unset, .unset, .unset] [(.ref b22)])) _
    refine XS.dup X24.here hx rfl (hb hby at_54) rfl rfl ?_
    show Steps p.tables e below (T24.setTop (mkF m 55 #[.val (.int p1), .val (.int p2), .val (.ref b3), .unset, .unset, .unset, .unset, .unset] [(.ref b22), (.ref b22)])) _
    refine XS.iconst X24.here hx rfl (hb hby at_55) ?_
    show Steps p.tables e below (T24.setTop (mkF m 56 #[.val (.int p1), .val (.int p2), .val (.ref b3), .unset, .unset, .unset, .unset, .unset] [(.int (2 : Int32)), (.ref b22), (.ref b22)])) _
    refine XS.iconst X24.here hx rfl (hb hby at_56) ?_
    show Steps p.tables e below (T24.setTop (mkF m 57 #[.val (.int p1), .val (.int p2), .val (.ref b3), .unset, .unset, .unset, .unset, .unset] [(.int (1 : Int32)), (.int (2 : Int32)), (.ref b22), (.ref b22)])) _
    refine st25 _ ?_
    show Steps p.tables e below (T25.setTop (mkF m 58 #[.val (.int p1), .val (.int p2), .val (.ref b3), .unset, .unset, .unset, .unset, .unset] [(.ref b22)])) _
    refine XS.dup X25.here hx rfl (hb hby at_58) rfl rfl ?_
    show Steps p.tables e below (T25.setTop (mkF m 59 #[.val (.int p1), .val (.int p2), .val (.ref b3), .unset, .unset, .unset, .unset, .unset] [(.ref b22), (.ref b22)])) _
    refine XS.iconst X25.here hx rfl (hb hby at_59) ?_
    show Steps p.tables e below (T25.setTop (mkF m 60 #[.val (.int p1), .val (.int p2), .val (.ref b3), .unset, .unset, .unset, .unset, .unset] [(.int (3 : Int32)), (.ref b22), (.ref b22)])) _
    refine XS.iconst X25.here hx rfl (hb hby at_60) ?_
    show Steps p.tables e below (T25.setTop (mkF m 61 #[.val (.int p1), .val (.int p2), .val (.ref b3), .unset, .unset, .unset, .unset, .unset] [(.int (3 : Int32)), (.int (3 : Int32)), (.ref b22), (.ref b22)])) _
    refine st26 _ ?_
    show Steps p.tables e below (T26.setTop (mkF m 62 #[.val (.int p1), .val (.int p2), .val (.ref b3), .unset, .unset, .unset, .unset, .unset] [(.ref b22)])) _
    refine XS.dup X26.here hx rfl (hb hby at_62) rfl rfl ?_
    show Steps p.tables e below (T26.setTop (mkF m 63 #[.val (.int p1), .val (.int p2), .val (.ref b3), .unset, .unset, .unset, .unset, .unset] [(.ref b22), (.ref b22)])) _
    refine XS.iconst X26.here hx rfl (hb hby at_63) ?_
    show Steps p.tables e below (T26.setTop (mkF m 64 #[.val (.int p1), .val (.int p2), .val (.ref b3), .unset, .unset, .unset, .unset, .unset] [(.int (4 : Int32)), (.ref b22), (.ref b22)])) _
    refine XS.iconst X26.here hx rfl (hb hby at_64) ?_
    show Steps p.tables e below (T26.setTop (mkF m 65 #[.val (.int p1), .val (.int p2), .val (.ref b3), .unset, .unset, .unset, .unset, .unset] [(.int (4 : Int32)), (.int (4 : Int32)), (.ref b22), (.ref b22)])) _
    refine st27 _ ?_
    show Steps p.tables e below (T27.setTop (mkF m 66 #[.val (.int p1), .val (.int p2), .val (.ref b3), .unset, .unset, .unset, .unset, .unset] [(.ref b22)])) _
    refine XS.dup X27.here hx rfl (hb hby at_66) rfl rfl ?_
    show Steps p.tables e below (T27.setTop (mkF m 67 #[.val (.int p1), .val (.int p2), .val (.ref b3), .unset, .unset, .unset, .unset, .unset] [(.ref b22), (.ref b22)])) _
    refine XS.iconst X27.here hx rfl (hb hby at_67) ?_
    show Steps p.tables e below (T27.setTop (mkF m 68 #[.val (.int p1), .val (.int p2), .val (.ref b3), .unset, .unset, .unset, .unset, .unset] [(.int (5 : Int32)), (.ref b22), (.ref b22)])) _
    refine XS.bipush X27.here hx rfl (hb hby at_68) ?_
    show Steps p.tables e below (T27.setTop (mkF m 70 #[.val (.int p1), .val (.int p2), .val (.ref b3), .unset, .unset, .unset, .unset, .unset] [(.int (6 : Int32)), (.int (5 : Int32)), (.ref b22), (.ref b22)])) _
    refine st28 _ ?_
    show Steps p.tables e below (T28.setTop (mkF m 71 #[.val (.int p1), .val (.int p2), .val (.ref b3), .unset, .unset, .unset, .unset, .unset] [(.ref b22)])) _
    refine XS.astoreN X28.here hx rfl (hb hby at_71) rfl rfl (l' := #[.val (.int p1), .val (.int p2), .val (.ref b3), .val (.ref b22), .unset, .unset, .unset, .unset]) rfl ?_
    show Steps p.tables e below (T28.setTop (mkF m 72 #[.val (.int p1), .val (.int p2), .val (.ref b3), .val (.ref b22), .unset, .unset, .unset, .unset] [])) _
    refine XS.iloadN X28.here hx rfl (hb hby at_72) rfl ?_
    show Steps p.tables e below (T28.setTop (mkF m 73 #[.val (.int p1), .val (.int p2), .val (.ref b3), .val (.ref b22), .unset, .unset, .unset, .unset] [(.int p1)])) _
    refine X28.ldcInt hx hown (mvT hZ (hw _ (List.mem_of_getElem? (i := 17) rfl))) (g := (mkF m 73 #[.val (.int p1), .val (.int p2), .val (.ref b3), .val (.ref b22), .unset, .unset, .unset, .unset] [(.int p1)])) rfl (hb hby at_73) _ ?_
    show Steps p.tables e below (T28.setTop (mkF m 75 #[.val (.int p1), .val (.int p2), .val (.ref b3), .val (.ref b22), .unset, .unset, .unset, .unset] [(.int (2147483647 : Int32)), (.int p1)])) _
    refine XS.iand X28.here hx rfl (hb hby at_75) rfl ?_
    show Steps p.tables e below (T28.setTop (mkF m 76 #[.val (.int p1), .val (.int p2), .val (.ref b3), .val (.ref b22), .unset, .unset, .unset, .unset] [(.int (p1 &&& (2147483647 : Int32)))])) _
    refine XS.bipush X28.here hx rfl (hb hby at_76) ?_
    show Steps p.tables e below (T28.setTop (mkF m 78 #[.val (.int p1), .val (.int p2), .val (.ref b3), .val (.ref b22), .unset, .unset, .unset, .unset] [(.int (6 : Int32)), (.int (p1 &&& (2147483647 : Int32)))])) _
    refine iremM X28 hx rfl (hb hby at_78) rfl (by decide) ?_
    show Steps p.tables e below (T28.setTop (mkF m 79 #[.val (.int p1), .val (.int p2), .val (.ref b3), .val (.ref b22), .unset, .unset, .unset, .unset] [(.int ((p1 &&& (2147483647 : Int32)) % (6 : Int32)))])) _
    refine XS.istore X28.here hx rfl (hb hby at_79) rfl (l' := #[.val (.int p1), .val (.int p2), .val (.ref b3), .val (.ref b22), .val (.int ((p1 &&& (2147483647 : Int32)) % (6 : Int32))), .unset, .unset, .unset]) rfl ?_
    show Steps p.tables e below (T28.setTop (mkF m 81 #[.val (.int p1), .val (.int p2), .val (.ref b3), .val (.ref b22), .val (.int ((p1 &&& (2147483647 : Int32)) % (6 : Int32))), .unset, .unset, .unset] [])) _
    refine XS.aloadN X28.here hx rfl (hb hby at_81) rfl rfl ?_
    show Steps p.tables e below (T28.setTop (mkF m 82 #[.val (.int p1), .val (.int p2), .val (.ref b3), .val (.ref b22), .val (.int ((p1 &&& (2147483647 : Int32)) % (6 : Int32))), .unset, .unset, .unset] [(.ref b3)])) _
    refine XS.iload X28.here hx rfl (hb hby at_82) rfl ?_
    show Steps p.tables e below (T28.setTop (mkF m 84 #[.val (.int p1), .val (.int p2), .val (.ref b3), .val (.ref b22), .val (.int ((p1 &&& (2147483647 : Int32)) % (6 : Int32))), .unset, .unset, .unset] [(.int ((p1 &&& (2147483647 : Int32)) % (6 : Int32))), (.ref b3)])) _
    refine X28.aaload hx (j := ((p1 &&& (2147483647 : Int32)) % (6 : Int32))) (v := (.ref w29)) (by rw [e28]; exact Ar_b3_84.1) (State.isArrayOf_alike hZ.alike Ar_b3_84.2.1) rfl Ar_b3_84.2.2 hin84 hat84 (g := (mkF m 84 #[.val (.int p1), .val (.int p2), .val (.ref b3), .val (.ref b22), .val (.int ((p1 &&& (2147483647 : Int32)) % (6 : Int32))), .unset, .unset, .unset] [(.int ((p1 &&& (2147483647 : Int32)) % (6 : Int32))), (.ref b3)])) rfl rfl (hb hby at_84) _ ?_
    show Steps p.tables e below (T28.setTop (mkF m 85 #[.val (.int p1), .val (.int p2), .val (.ref b3), .val (.ref b22), .val (.int ((p1 &&& (2147483647 : Int32)) % (6 : Int32))), .unset, .unset, .unset] [(.ref w29)])) _
    refine XS.astore X28.here hx rfl (hb hby at_85) rfl rfl (l' := #[.val (.int p1), .val (.int p2), .val (.ref b3), .val (.ref b22), .val (.int ((p1 &&& (2147483647 : Int32)) % (6 : Int32))), .val (.ref w29), .unset, .unset]) rfl ?_
    show Steps p.tables e below (T28.setTop (mkF m 87 #[.val (.int p1), .val (.int p2), .val (.ref b3), .val (.ref b22), .val (.int ((p1 &&& (2147483647 : Int32)) % (6 : Int32))), .val (.ref w29), .unset, .unset] [])) _
    refine XS.iloadN X28.here hx rfl (hb hby at_87) rfl ?_
    show Steps p.tables e below (T28.setTop (mkF m 88 #[.val (.int p1), .val (.int p2), .val (.ref b3), .val (.ref b22), .val (.int ((p1 &&& (2147483647 : Int32)) % (6 : Int32))), .val (.ref w29), .unset, .unset] [(.int p2)])) _
    refine XS.ifYes X28.here hx rfl (pc0 := 88) (pc' := 97) rfl (hb hby at_88) rfl ((if0 _ _).trans (flt hc88).2.1) (by decide) (by decide) ?_
    show Steps p.tables e below (T28.setTop (mkF m 97 #[.val (.int p1), .val (.int p2), .val (.ref b3), .val (.ref b22), .val (.int ((p1 &&& (2147483647 : Int32)) % (6 : Int32))), .val (.ref w29), .unset, .unset] [])) _
    refine XS.iloadN X28.here hx rfl (hb hby at_97) rfl ?_
    show Steps p.tables e below (T28.setTop (mkF m 98 #[.val (.int p1), .val (.int p2), .val (.ref b3), .val (.ref b22), .val (.int ((p1 &&& (2147483647 : Int32)) % (6 : Int32))), .val (.ref w29), .unset, .unset] [(.int p2)])) _
    refine XS.ifYes X28.here hx rfl (pc0 := 98) (pc' := 107) rfl (hb hby at_98) rfl ((if0 _ _).trans (feq hc98).2) (by decide) (by decide) ?_
    show Steps p.tables e below (T28.setTop (mkF m 107 #[.val (.int p1), .val (.int p2), .val (.ref b3), .val (.ref b22), .val (.int ((p1 &&& (2147483647 : Int32)) % (6 : Int32))), .val (.ref w29), .unset, .unset] [])) _
    refine XS.iconst X28.here hx rfl (hb hby at_107) ?_
    show Steps p.tables e below (T28.setTop (mkF m 108 #[.val (.int p1), .val (.int p2), .val (.ref b3), .val (.ref b22), .val (.int ((p1 &&& (2147483647 : Int32)) % (6 : Int32))), .val (.ref w29), .unset, .unset] [(.int (2 : Int32))])) _
    refine XS.istore X28.here hx rfl (hb hby at_108) rfl (l' := #[.val (.int p1), .val (.int p2), .val (.ref b3), .val (.ref b22), .val (.int ((p1 &&& (2147483647 : Int32)) % (6 : Int32))), .val (.ref w29), .val (.int (2 : Int32)), .unset]) rfl ?_
    show Steps p.tables e below (T28.setTop (mkF m 110 #[.val (.int p1), .val (.int p2), .val (.ref b3), .val (.ref b22), .val (.int ((p1 &&& (2147483647 : Int32)) % (6 : Int32))), .val (.ref w29), .val (.int (2 : Int32)), .unset] [])) _
    refine XS.aloadN X28.here hx rfl (hb hby at_110) rfl rfl ?_
    show Steps p.tables e below (T28.setTop (mkF m 111 #[.val (.int p1), .val (.int p2), .val (.ref b3), .val (.ref b22), .val (.int ((p1 &&& (2147483647 : Int32)) % (6 : Int32))), .val (.ref w29), .val (.int (2 : Int32)), .unset] [(.ref b22)])) _
    refine XS.iload X28.here hx rfl (hb hby at_111) rfl ?_
    show Steps p.tables e below (T28.setTop (mkF m 113 #[.val (.int p1), .val (.int p2), .val (.ref b3), .val (.ref b22), .val (.int ((p1 &&& (2147483647 : Int32)) % (6 : Int32))), .val (.ref w29), .val (.int (2 : Int32)), .unset] [(.int ((p1 &&& (2147483647 : Int32)) % (6 : Int32))), (.ref b22)])) _
    refine X28.iaload hx (j := ((p1 &&& (2147483647 : Int32)) % (6 : Int32))) (v := (.int w30)) (by rw [e28]; exact Ar_b22_113.1) (State.isArrayOf_alike hZ.alike Ar_b22_113.2.1) Ar_b22_113.2.2 hin113 hat113 (g := (mkF m 113 #[.val (.int p1), .val (.int p2), .val (.ref b3), .val (.ref b22), .val (.int ((p1 &&& (2147483647 : Int32)) % (6 : Int32))), .val (.ref w29), .val (.int (2 : Int32)), .unset] [(.int ((p1 &&& (2147483647 : Int32)) % (6 : Int32))), (.ref b22)])) rfl rfl (hb hby at_113) _ ?_
    show Steps p.tables e below (T28.setTop (mkF m 114 #[.val (.int p1), .val (.int p2), .val (.ref b3), .val (.ref b22), .val (.int ((p1 &&& (2147483647 : Int32)) % (6 : Int32))), .val (.ref w29), .val (.int (2 : Int32)), .unset] [(.int w30)])) _
    refine XS.iload X28.here hx rfl (hb hby at_114) rfl ?_
    show Steps p.tables e below (T28.setTop (mkF m 116 #[.val (.int p1), .val (.int p2), .val (.ref b3), .val (.ref b22), .val (.int ((p1 &&& (2147483647 : Int32)) % (6 : Int32))), .val (.ref w29), .val (.int (2 : Int32)), .unset] [(.int (2 : Int32)), (.int w30)])) _
    refine XS.ishr X28.here hx rfl (hb hby at_116) rfl ?_
    show Steps p.tables e below (T28.setTop (mkF m 117 #[.val (.int p1), .val (.int p2), .val (.ref b3), .val (.ref b22), .val (.int ((p1 &&& (2147483647 : Int32)) % (6 : Int32))), .val (.ref w29), .val (.int (2 : Int32)), .unset] [(.int (w30 >>> ((2 : Int32) &&& 31)))])) _
    refine XS.iconst X28.here hx rfl (hb hby at_117) ?_
    show Steps p.tables e below (T28.setTop (mkF m 118 #[.val (.int p1), .val (.int p2), .val (.ref b3), .val (.ref b22), .val (.int ((p1 &&& (2147483647 : Int32)) % (6 : Int32))), .val (.ref w29), .val (.int (2 : Int32)), .unset] [(.int (1 : Int32)), (.int (w30 >>> ((2 : Int32) &&& 31)))])) _
    refine XS.iand X28.here hx rfl (hb hby at_118) rfl ?_
    show Steps p.tables e below (T28.setTop (mkF m 119 #[.val (.int p1), .val (.int p2), .val (.ref b3), .val (.ref b22), .val (.int ((p1 &&& (2147483647 : Int32)) % (6 : Int32))), .val (.ref w29), .val (.int (2 : Int32)), .unset] [(.int ((w30 >>> ((2 : Int32) &&& 31)) &&& (1 : Int32)))])) _
    refine XS.ifYes X28.here hx rfl (pc0 := 119) (pc' := 126) rfl (hb hby at_119) rfl ((if0 _ _).trans (teq hc119).1) (by decide) (by decide) ?_
    show Steps p.tables e below (T28.setTop (mkF m 126 #[.val (.int p1), .val (.int p2), .val (.ref b3), .val (.ref b22), .val (.int ((p1 &&& (2147483647 : Int32)) % (6 : Int32))), .val (.ref w29), .val (.int (2 : Int32)), .unset] [])) _
    refine XS.iconst X28.here hx rfl (hb hby at_126) ?_
    show Steps p.tables e below (T28.setTop (mkF m 127 #[.val (.int p1), .val (.int p2), .val (.ref b3), .val (.ref b22), .val (.int ((p1 &&& (2147483647 : Int32)) % (6 : Int32))), .val (.ref w29), .val (.int (2 : Int32)), .unset] [(.int (0 : Int32))])) _
    refine XS.istore X28.here hx rfl (hb hby at_127) rfl (l' := #[.val (.int p1), .val (.int p2), .val (.ref b3), .val (.ref b22), .val (.int ((p1 &&& (2147483647 : Int32)) % (6 : Int32))), .val (.ref w29), .val (.int (2 : Int32)), .val (.int (0 : Int32))]) rfl ?_
    show Steps p.tables e below (T28.setTop (mkF m 129 #[.val (.int p1), .val (.int p2), .val (.ref b3), .val (.ref b22), .val (.int ((p1 &&& (2147483647 : Int32)) % (6 : Int32))), .val (.ref w29), .val (.int (2 : Int32)), .val (.int (0 : Int32))] [])) _
    refine XS.aload X28.here hx rfl (hb hby at_129) rfl rfl ?_
    show Steps p.tables e below (T28.setTop (mkF m 131 #[.val (.int p1), .val (.int p2), .val (.ref b3), .val (.ref b22), .val (.int ((p1 &&& (2147483647 : Int32)) % (6 : Int32))), .val (.ref w29), .val (.int (2 : Int32)), .val (.int (0 : Int32))] [(.ref w29)])) _
    refine XS.iloadN X28.here hx rfl (hb hby at_131) rfl ?_
    show Steps p.tables e below (T28.setTop (mkF m 132 #[.val (.int p1), .val (.int p2), .val (.ref b3), .val (.ref b22), .val (.int ((p1 &&& (2147483647 : Int32)) % (6 : Int32))), .val (.ref w29), .val (.int (2 : Int32)), .val (.int (0 : Int32))] [(.int p2), (.ref w29)])) _
    refine st31.trans ?_
    show Steps p.tables e below (T31.setTop (mkF m 135 #[.val (.int p1), .val (.int p2), .val (.ref b3), .val (.ref b22), .val (.int ((p1 &&& (2147483647 : Int32)) % (6 : Int32))), .val (.ref w29), .val (.int (2 : Int32)), .val (.int (0 : Int32))] [(.int (0 : Int32))])) _
    refine XS.iload X31.here hx rfl (hb hby at_135) rfl ?_
    show Steps p.tables e below (T31.setTop (mkF m 137 #[.val (.int p1), .val (.int p2), .val (.ref b3), .val (.ref b22), .val (.int ((p1 &&& (2147483647 : Int32)) % (6 : Int32))), .val (.ref w29), .val (.int (2 : Int32)), .val (.int (0 : Int32))] [(.int (0 : Int32)), (.int (0 : Int32))])) _
    refine XS.icmpNo X31.here hx rfl (hb hby at_137) rfl (teq (rfl : (0 : Int32) = (0 : Int32))).2 ?_
    show Steps p.tables e below (T31.setTop (mkF m 140 #[.val (.int p1), .val (.int p2), .val (.ref b3), .val (.ref b22), .val (.int ((p1 &&& (2147483647 : Int32)) % (6 : Int32))), .val (.ref w29), .val (.int (2 : Int32)), .val (.int (0 : Int32))] [])) _
    refine XS.iconst X31.here hx rfl (hb hby at_140) ?_
    show Steps p.tables e below (T31.setTop (mkF m 141 #[.val (.int p1), .val (.int p2), .val (.ref b3), .val (.ref b22), .val (.int ((p1 &&& (2147483647 : Int32)) % (6 : Int32))), .val (.ref w29), .val (.int (2 : Int32)), .val (.int (0 : Int32))] [(.int (1 : Int32))])) _
    refine XS.goto X31.here hx rfl (pc0 := 141) (pc' := 145) rfl (hb hby at_141) (by decide) (by decide) ?_
    show Steps p.tables e below (T31.setTop (mkF m 145 #[.val (.int p1), .val (.int p2), .val (.ref b3), .val (.ref b22), .val (.int ((p1 &&& (2147483647 : Int32)) % (6 : Int32))), .val (.ref w29), .val (.int (2 : Int32)), .val (.int (0 : Int32))] [(.int (1 : Int32))])) _
    exact retN X31 hx (t := .boolean) Bd.returns (by simp) (hb hby at_145) hr
  · show Q0 n0 _ _
    exact ⟨rfl, N31⟩
set_option maxRecDepth 65536 in
set_option maxHeartbeats 40000000 in
theorem rm0_21 (l : Launch) (Z : State) (a0 : Array Value) (hw : ∀ d ∈ tables_1, d.before a0 Z = true) (ws : List Jvm.Cond) (p1 : Int32) (p2 : Int32) (w4 : Addr) (w7 : Addr) (w10 : Addr) (w13 : Addr) (w16 : Addr) (w19 : Addr) (w29 : Addr) (w30 : Int32) (h0 : Heap) (n0 : Nat) (Z0 : n0 ≤ h0.size) (S_EQUAL : Sta Z h0 "com/example/quantorum/quantorum/algebra/Relation" "EQUAL" "Lcom/example/quantorum/quantorum/algebra/Relation;" (.ref w4)) (E_w4 : Exa Z h0 w4 "com/example/quantorum/quantorum/algebra/Relation") (S_NOT_EQUAL : Sta Z h0 "com/example/quantorum/quantorum/algebra/Relation" "NOT_EQUAL" "Lcom/example/quantorum/quantorum/algebra/Relation;" (.ref w7)) (E_w7 : Exa Z h0 w7 "com/example/quantorum/quantorum/algebra/Relation") (S_LESS : Sta Z h0 "com/example/quantorum/quantorum/algebra/Relation" "LESS" "Lcom/example/quantorum/quantorum/algebra/Relation;" (.ref w10)) (E_w10 : Exa Z h0 w10 "com/example/quantorum/quantorum/algebra/Relation") (S_LESS_OR_EQUAL : Sta Z h0 "com/example/quantorum/quantorum/algebra/Relation" "LESS_OR_EQUAL" "Lcom/example/quantorum/quantorum/algebra/Relation;" (.ref w13)) (E_w13 : Exa Z h0 w13 "com/example/quantorum/quantorum/algebra/Relation") (S_GREATER : Sta Z h0 "com/example/quantorum/quantorum/algebra/Relation" "GREATER" "Lcom/example/quantorum/quantorum/algebra/Relation;" (.ref w16)) (E_w16 : Exa Z h0 w16 "com/example/quantorum/quantorum/algebra/Relation") (S_GREATER_OR_EQUAL : Sta Z h0 "com/example/quantorum/quantorum/algebra/Relation" "GREATER_OR_EQUAL" "Lcom/example/quantorum/quantorum/algebra/Relation;" (.ref w19)) (E_w19 : Exa Z h0 w19 "com/example/quantorum/quantorum/algebra/Relation") (hlo84 : ¬ ((p1 &&& (2147483647 : Int32)) % (6 : Int32)) < 0 ∧ ((p1 &&& (2147483647 : Int32)) % (6 : Int32)) < (6 : Int32)) (hel84 : ([(.ref w4), (.ref w7), (.ref w10), (.ref w13), (.ref w16), (.ref w19)] : List Value).getD (((p1 &&& (2147483647 : Int32)) % (6 : Int32))).toNatClampNeg .null = (.ref w29)) (hlo113 : ¬ ((p1 &&& (2147483647 : Int32)) % (6 : Int32)) < 0 ∧ ((p1 &&& (2147483647 : Int32)) % (6 : Int32)) < (6 : Int32)) (hel113 : ([(.int (2 : Int32)), (.int (5 : Int32)), (.int (1 : Int32)), (.int (3 : Int32)), (.int (4 : Int32)), (.int (6 : Int32))] : List Value).getD (((p1 &&& (2147483647 : Int32)) % (6 : Int32))).toNatClampNeg (.int (0 : Int32)) = (.int w30)) (E_w29 : Exa Z h0 w29 "com/example/quantorum/quantorum/algebra/Relation") (hcall : ∀ h, Keep h0 h [] → n0 ≤ h.size → own_Call l Z w29 p2 (1 : Int32) h n0) (hc88 : ¬ (p2 < (0 : Int32))) (hc98 : ¬ (p2 = (0 : Int32))) (hc119 : ¬ (((w30 >>> ((2 : Int32) &&& 31)) &&& (1 : Int32)) = (0 : Int32))) :
    MetFree l x (head1 (Jvm.Cond.code x code maxLocals ret :: ws) room_1) (fun a U => a = #[(.int p1), (.int p2)] ∧ Z.Warmed39 U.vm ∧ U.heap = h0) (fun _ _ _ _ _ => True) (fun _ U o U' => ∃ v L, o = .returned v ∧ Q0 n0 v L ∧ FrameEnd U o U' L room_1.cells room_1.slots) := by
  refine MetFree.of_bodySF (plainFor_of_name pn_0) hisR ?_
  intro p e s m args below meth c s₁ Bd hml0 hP hK
  obtain ⟨rfl, hZ, hh⟩ := hP
  have hx := Bd.exec
  have hby := Bd.bytes
  have hml : c.maxLocals = 8 := hml0
  have hown : s.vm.findClass "com/example/quantorum/quantorum/algebra/RelationHoldsPinLaw" = some m.cls := findClass_of_methodNamed Bd.named
  have hnm := (name_of_methodNamed Bd.named Bd.method).1
  have X0 : Stand p l e room_1 s m #[(.int p1), (.int p2)] below meth c s₁ [] 0 0 := Stand.of_body Bd
  have e0 : s₁.heap = h0 := by rw [← hh, Bd.state]; rfl
  have N0 := Fr.nil n0
  have pre0 : ∀ t, Steps p.tables e below (s₁.setTop (mkF m 0 #[.val (.int p1), .val (.int p2), .unset, .unset, .unset, .unset, .unset, .unset] [])) t → Steps p.tables e below (s₁.setTop (entryFrame m #[(.int p1), (.int p2)] maxLocals)) t := fun t k => castTop (ef_0 m p1 p2) k
  obtain ⟨T3, h3, k3, X3, e3, E3, A3, O3, st3⟩ := newR X0 hx hZ hown (hw _ (List.mem_of_getElem? (i := 0) rfl)) (hw _ (List.mem_of_getElem? (i := 1) rfl)) e0 (g := (mkF m 2 #[.val (.int p1), .val (.int p2), .unset, .unset, .unset, .unset, .unset, .unset] [(.int (6 : Int32))])) rfl (hb hby at_2) rfl (by decide) (cap := 6) (by decide) (by decide) (by decide) (by decide)
  obtain ⟨b3, g3⟩ : ∃ z, z = h0.size := ⟨_, rfl⟩      -- the fresh array's address
  rw [← g3] at A3 st3
  have V_b3 : Arv Z h3 b3 k3 (.object "com/example/quantorum/quantorum/algebra/Relation") (6 : Int32) [.null, .null, .null, .null, .null, .null] .null := (Arv.new A3 (by decide)).pad (pad_rep [] .null 6)
  have g_b3 : n0 ≤ b3 := Nat.le_trans Z0 (Nat.le_of_eq g3.symm)
  have sz_b3 : h0.size ≤ b3 := (Nat.le_trans (Keep.refl h0 []).1 (Nat.le_of_eq g3.symm))
  have K3 : Keep h0 h3 [] := (Keep.refl h0 []).ext E3
  obtain ⟨T5, X5, e5, st5⟩ := getS2 X3 hx hZ hown (host := "") (Or.inl (hw _ (List.mem_of_getElem? (i := 2) rfl))) Via.refl e3 (S_EQUAL.ext (own_ext K3)) (g := (mkF m 7 #[.val (.int p1), .val (.int p2), .unset, .unset, .unset, .unset, .unset, .unset] [(.int (0 : Int32)), (.ref b3), (.ref b3)])) rfl (hb hby at_7)
  obtain ⟨cl_b3_10, Ar_b3, q_b3, S_b3, N_b3, H_b3, G_b3⟩ := V_b3
  have hin10 : ¬ ((0 : Int32) < 0 ∨ cl_b3_10.slots.size ≤ ((0 : Int32)).toNatClampNeg) := inb_of S_b3 ⟨by decide, by decide⟩
  have Sto10 : Sto Z h3 b3 (.ref w4) := Sto.ofV Ar_b3 q_b3 O3 (Ins.self (E_w4.keep K3))
  obtain ⟨T6, h6, X6, e6, W6, st6⟩ := stR X5 hx hZ e5 Ar_b3 (j := (0 : Int32)) hin10 rfl Sto10 (g := (mkF m 10 #[.val (.int p1), .val (.int p2), .unset, .unset, .unset, .unset, .unset, .unset] [(.ref w4), (.int (0 : Int32)), (.ref b3), (.ref b3)])) rfl rfl (hb hby at_10)
  have V_b3_6 := Arv.set Ar_b3 q_b3 S_b3 N_b3 H_b3 G_b3 rfl W6 0 rfl (Nat.le_of_ble_eq_true rfl)
  have K6 : Keep h0 h6 [] := K3.wr W6 (Or.inr sz_b3)
  have N6 := Fr.snoc X6 N0 g_b3
  obtain ⟨T8, X8, e8, st8⟩ := getS2 X6 hx hZ hown (host := "") (Or.inl (hw _ (List.mem_of_getElem? (i := 6) rfl))) Via.refl e6 (S_NOT_EQUAL.ext (own_ext K6)) (g := (mkF m 13 #[.val (.int p1), .val (.int p2), .unset, .unset, .unset, .unset, .unset, .unset] [(.int (1 : Int32)), (.ref b3), (.ref b3)])) rfl (hb hby at_13)
  obtain ⟨cl_b3_16, Ar_b3, q_b3, S_b3, N_b3, H_b3, G_b3⟩ := V_b3_6
  have hin16 : ¬ ((1 : Int32) < 0 ∨ cl_b3_16.slots.size ≤ ((1 : Int32)).toNatClampNeg) := inb_of S_b3 ⟨by decide, by decide⟩
  have Sto16 : Sto Z h6 b3 (.ref w7) := Sto.ofV Ar_b3 q_b3 O3 (Ins.self (E_w7.keep K6))
  obtain ⟨T9, h9, X9, e9, W9, st9⟩ := stR X8 hx hZ e8 Ar_b3 (j := (1 : Int32)) hin16 rfl Sto16 (g := (mkF m 16 #[.val (.int p1), .val (.int p2), .unset, .unset, .unset, .unset, .unset, .unset] [(.ref w7), (.int (1 : Int32)), (.ref b3), (.ref b3)])) rfl rfl (hb hby at_16)
  have V_b3_9 := Arv.set Ar_b3 q_b3 S_b3 N_b3 H_b3 G_b3 rfl W9 1 rfl (Nat.le_of_ble_eq_true rfl)
  have K9 : Keep h0 h9 [] := K6.wr W9 (Or.inr sz_b3)
  have N9 := Fr.snoc X9 N6 g_b3
  obtain ⟨T11, X11, e11, st11⟩ := getS2 X9 hx hZ hown (host := "") (Or.inl (hw _ (List.mem_of_getElem? (i := 8) rfl))) Via.refl e9 (S_LESS.ext (own_ext K9)) (g := (mkF m 19 #[.val (.int p1), .val (.int p2), .unset, .unset, .unset, .unset, .unset, .unset] [(.int (2 : Int32)), (.ref b3), (.ref b3)])) rfl (hb hby at_19)
  obtain ⟨cl_b3_22, Ar_b3, q_b3, S_b3, N_b3, H_b3, G_b3⟩ := V_b3_9
  have hin22 : ¬ ((2 : Int32) < 0 ∨ cl_b3_22.slots.size ≤ ((2 : Int32)).toNatClampNeg) := inb_of S_b3 ⟨by decide, by decide⟩
  have Sto22 : Sto Z h9 b3 (.ref w10) := Sto.ofV Ar_b3 q_b3 O3 (Ins.self (E_w10.keep K9))
  obtain ⟨T12, h12, X12, e12, W12, st12⟩ := stR X11 hx hZ e11 Ar_b3 (j := (2 : Int32)) hin22 rfl Sto22 (g := (mkF m 22 #[.val (.int p1), .val (.int p2), .unset, .unset, .unset, .unset, .unset, .unset] [(.ref w10), (.int (2 : Int32)), (.ref b3), (.ref b3)])) rfl rfl (hb hby at_22)
  have V_b3_12 := Arv.set Ar_b3 q_b3 S_b3 N_b3 H_b3 G_b3 rfl W12 2 rfl (Nat.le_of_ble_eq_true rfl)
  have K12 : Keep h0 h12 [] := K9.wr W12 (Or.inr sz_b3)
  have N12 := Fr.snoc X12 N9 g_b3
  obtain ⟨T14, X14, e14, st14⟩ := getS2 X12 hx hZ hown (host := "") (Or.inl (hw _ (List.mem_of_getElem? (i := 10) rfl))) Via.refl e12 (S_LESS_OR_EQUAL.ext (own_ext K12)) (g := (mkF m 25 #[.val (.int p1), .val (.int p2), .unset, .unset, .unset, .unset, .unset, .unset] [(.int (3 : Int32)), (.ref b3), (.ref b3)])) rfl (hb hby at_25)
  obtain ⟨cl_b3_28, Ar_b3, q_b3, S_b3, N_b3, H_b3, G_b3⟩ := V_b3_12
  have hin28 : ¬ ((3 : Int32) < 0 ∨ cl_b3_28.slots.size ≤ ((3 : Int32)).toNatClampNeg) := inb_of S_b3 ⟨by decide, by decide⟩
  have Sto28 : Sto Z h12 b3 (.ref w13) := Sto.ofV Ar_b3 q_b3 O3 (Ins.self (E_w13.keep K12))
  obtain ⟨T15, h15, X15, e15, W15, st15⟩ := stR X14 hx hZ e14 Ar_b3 (j := (3 : Int32)) hin28 rfl Sto28 (g := (mkF m 28 #[.val (.int p1), .val (.int p2), .unset, .unset, .unset, .unset, .unset, .unset] [(.ref w13), (.int (3 : Int32)), (.ref b3), (.ref b3)])) rfl rfl (hb hby at_28)
  have V_b3_15 := Arv.set Ar_b3 q_b3 S_b3 N_b3 H_b3 G_b3 rfl W15 3 rfl (Nat.le_of_ble_eq_true rfl)
  have K15 : Keep h0 h15 [] := K12.wr W15 (Or.inr sz_b3)
  have N15 := Fr.snoc X15 N12 g_b3
  obtain ⟨T17, X17, e17, st17⟩ := getS2 X15 hx hZ hown (host := "") (Or.inl (hw _ (List.mem_of_getElem? (i := 12) rfl))) Via.refl e15 (S_GREATER.ext (own_ext K15)) (g := (mkF m 31 #[.val (.int p1), .val (.int p2), .unset, .unset, .unset, .unset, .unset, .unset] [(.int (4 : Int32)), (.ref b3), (.ref b3)])) rfl (hb hby at_31)
  obtain ⟨cl_b3_34, Ar_b3, q_b3, S_b3, N_b3, H_b3, G_b3⟩ := V_b3_15
  have hin34 : ¬ ((4 : Int32) < 0 ∨ cl_b3_34.slots.size ≤ ((4 : Int32)).toNatClampNeg) := inb_of S_b3 ⟨by decide, by decide⟩
  have Sto34 : Sto Z h15 b3 (.ref w16) := Sto.ofV Ar_b3 q_b3 O3 (Ins.self (E_w16.keep K15))
  obtain ⟨T18, h18, X18, e18, W18, st18⟩ := stR X17 hx hZ e17 Ar_b3 (j := (4 : Int32)) hin34 rfl Sto34 (g := (mkF m 34 #[.val (.int p1), .val (.int p2), .unset, .unset, .unset, .unset, .unset, .unset] [(.ref w16), (.int (4 : Int32)), (.ref b3), (.ref b3)])) rfl rfl (hb hby at_34)
  have V_b3_18 := Arv.set Ar_b3 q_b3 S_b3 N_b3 H_b3 G_b3 rfl W18 4 rfl (Nat.le_of_ble_eq_true rfl)
  have K18 : Keep h0 h18 [] := K15.wr W18 (Or.inr sz_b3)
  have N18 := Fr.snoc X18 N15 g_b3
  obtain ⟨T20, X20, e20, st20⟩ := getS2 X18 hx hZ hown (host := "") (Or.inl (hw _ (List.mem_of_getElem? (i := 14) rfl))) Via.refl e18 (S_GREATER_OR_EQUAL.ext (own_ext K18)) (g := (mkF m 37 #[.val (.int p1), .val (.int p2), .unset, .unset, .unset, .unset, .unset, .unset] [(.int (5 : Int32)), (.ref b3), (.ref b3)])) rfl (hb hby at_37)
  obtain ⟨cl_b3_40, Ar_b3, q_b3, S_b3, N_b3, H_b3, G_b3⟩ := V_b3_18
  have hin40 : ¬ ((5 : Int32) < 0 ∨ cl_b3_40.slots.size ≤ ((5 : Int32)).toNatClampNeg) := inb_of S_b3 ⟨by decide, by decide⟩
  have Sto40 : Sto Z h18 b3 (.ref w19) := Sto.ofV Ar_b3 q_b3 O3 (Ins.self (E_w19.keep K18))
  obtain ⟨T21, h21, X21, e21, W21, st21⟩ := stR X20 hx hZ e20 Ar_b3 (j := (5 : Int32)) hin40 rfl Sto40 (g := (mkF m 40 #[.val (.int p1), .val (.int p2), .unset, .unset, .unset, .unset, .unset, .unset] [(.ref w19), (.int (5 : Int32)), (.ref b3), (.ref b3)])) rfl rfl (hb hby at_40)
  have V_b3_21 := Arv.set Ar_b3 q_b3 S_b3 N_b3 H_b3 G_b3 rfl W21 5 rfl (Nat.le_of_ble_eq_true rfl)
  have K21 : Keep h0 h21 [] := K18.wr W21 (Or.inr sz_b3)
  have N21 := Fr.snoc X21 N18 g_b3
  obtain ⟨T22, h22, k22, X22, e22, E22, A22, st22⟩ := newP X21 hx hZ (hw _ (List.mem_of_getElem? (i := 16) rfl)) e21 (g := (mkF m 44 #[.val (.int p1), .val (.int p2), .val (.ref b3), .unset, .unset, .unset, .unset, .unset] [(.int (6 : Int32))])) rfl (hb hby at_44) rfl (by decide) (cap := 6) (by decide) (by decide) (by decide) (by decide)
  obtain ⟨b22, g22⟩ : ∃ z, z = h21.size := ⟨_, rfl⟩      -- the fresh array's address
  rw [← g22] at A22 st22
  have V_b22 : Arv Z h22 b22 k22 .int (6 : Int32) [(.int (0 : Int32)), (.int (0 : Int32)), (.int (0 : Int32)), (.int (0 : Int32)), (.int (0 : Int32)), (.int (0 : Int32))] (.int (0 : Int32)) := (Arv.new A22 (by decide)).pad (pad_rep [] (.int (0 : Int32)) 6)
  have g_b22 : n0 ≤ b22 := Nat.le_trans (Nat.le_trans (Nat.le_trans (Nat.le_trans (Nat.le_trans (Nat.le_trans (Nat.le_trans (Nat.le_trans Z0 E3.1) (Keep.of_wr W6).1) (Keep.of_wr W9).1) (Keep.of_wr W12).1) (Keep.of_wr W15).1) (Keep.of_wr W18).1) (Keep.of_wr W21).1) (Nat.le_of_eq g22.symm)
  have sz_b22 : h0.size ≤ b22 := (Nat.le_trans K21.1 (Nat.le_of_eq g22.symm))
  have K22 : Keep h0 h22 [] := K21.ext E22
  obtain ⟨cl_b22_49, Ar_b22, q_b22, S_b22, N_b22, H_b22, G_b22⟩ := V_b22      -- open the array's fact as it stands now (its cell, kind, length, elements)
  have hin49 : ¬ ((0 : Int32) < 0 ∨ cl_b22_49.slots.size ≤ ((0 : Int32)).toNatClampNeg) := inb_of S_b22 ⟨by decide, by decide⟩
  obtain ⟨T23, h23, X23, e23, W23, st23⟩ := stI X22 hx hZ e22 Ar_b22 (j := (0 : Int32)) hin49 (g := (mkF m 49 #[.val (.int p1), .val (.int p2), .val (.ref b3), .unset, .unset, .unset, .unset, .unset] [(.int (2 : Int32)), (.int (0 : Int32)), (.ref b22), (.ref b22)])) rfl rfl (hb hby at_49)
  have V_b22_23 := Arv.set Ar_b22 q_b22 S_b22 N_b22 H_b22 G_b22 rfl W23 0 rfl (Nat.le_of_ble_eq_true rfl)      -- the array as it stands now (the place must lie among its first values: Arv.pad with pad_rep lengthens them)
  have K23 : Keep h0 h23 [] := K22.wr W23 (Or.inr sz_b22)
  have N23 := Fr.snoc X23 N21 g_b22
  obtain ⟨cl_b22_53, Ar_b22, q_b22, S_b22, N_b22, H_b22, G_b22⟩ := V_b22_23      -- open the array's fact as it stands now (its cell, kind, length, elements)
  have hin53 : ¬ ((1 : Int32) < 0 ∨ cl_b22_53.slots.size ≤ ((1 : Int32)).toNatClampNeg) := inb_of S_b22 ⟨by decide, by decide⟩
  obtain ⟨T24, h24, X24, e24, W24, st24⟩ := stI X23 hx hZ e23 Ar_b22 (j := (1 : Int32)) hin53 (g := (mkF m 53 #[.val (.int p1), .val (.int p2), .val (.ref b3), .unset, .unset, .unset, .unset, .unset] [(.int (5 : Int32)), (.int (1 : Int32)), (.ref b22), (.ref b22)])) rfl rfl (hb hby at_53)
  have V_b22_24 := Arv.set Ar_b22 q_b22 S_b22 N_b22 H_b22 G_b22 rfl W24 1 rfl (Nat.le_of_ble_eq_true rfl)      -- the array as it stands now (the place must lie among its first values: Arv.pad with pad_rep lengthens them)
  have K24 : Keep h0 h24 [] := K23.wr W24 (Or.inr sz_b22)
  have N24 := Fr.snoc X24 N23 g_b22
  obtain ⟨cl_b22_57, Ar_b22, q_b22, S_b22, N_b22, H_b22, G_b22⟩ := V_b22_24      -- open the array's fact as it stands now (its cell, kind, length, elements)
  have hin57 : ¬ ((2 : Int32) < 0 ∨ cl_b22_57.slots.size ≤ ((2 : Int32)).toNatClampNeg) := inb_of S_b22 ⟨by decide, by decide⟩
  obtain ⟨T25, h25, X25, e25, W25, st25⟩ := stI X24 hx hZ e24 Ar_b22 (j := (2 : Int32)) hin57 (g := (mkF m 57 #[.val (.int p1), .val (.int p2), .val (.ref b3), .unset, .unset, .unset, .unset, .unset] [(.int (1 : Int32)), (.int (2 : Int32)), (.ref b22), (.ref b22)])) rfl rfl (hb hby at_57)
  have V_b22_25 := Arv.set Ar_b22 q_b22 S_b22 N_b22 H_b22 G_b22 rfl W25 2 rfl (Nat.le_of_ble_eq_true rfl)      -- the array as it stands now (the place must lie among its first values: Arv.pad with pad_rep lengthens them)
  have K25 : Keep h0 h25 [] := K24.wr W25 (Or.inr sz_b22)
  have N25 := Fr.snoc X25 N24 g_b22
  obtain ⟨cl_b22_61, Ar_b22, q_b22, S_b22, N_b22, H_b22, G_b22⟩ := V_b22_25      -- open the array's fact as it stands now (its cell, kind, length, elements)
  have hin61 : ¬ ((3 : Int32) < 0 ∨ cl_b22_61.slots.size ≤ ((3 : Int32)).toNatClampNeg) := inb_of S_b22 ⟨by decide, by decide⟩
  obtain ⟨T26, h26, X26, e26, W26, st26⟩ := stI X25 hx hZ e25 Ar_b22 (j := (3 : Int32)) hin61 (g := (mkF m 61 #[.val (.int p1), .val (.int p2), .val (.ref b3), .unset, .unset, .unset, .unset, .unset] [(.int (3 : Int32)), (.int (3 : Int32)), (.ref b22), (.ref b22)])) rfl rfl (hb hby at_61)
  have V_b22_26 := Arv.set Ar_b22 q_b22 S_b22 N_b22 H_b22 G_b22 rfl W26 3 rfl (Nat.le_of_ble_eq_true rfl)      -- the array as it stands now (the place must lie among its first values: Arv.pad with pad_rep lengthens them)
  have K26 : Keep h0 h26 [] := K25.wr W26 (Or.inr sz_b22)
  have N26 := Fr.snoc X26 N25 g_b22
  obtain ⟨cl_b22_65, Ar_b22, q_b22, S_b22, N_b22, H_b22, G_b22⟩ := V_b22_26      -- open the array's fact as it stands now (its cell, kind, length, elements)
  have hin65 : ¬ ((4 : Int32) < 0 ∨ cl_b22_65.slots.size ≤ ((4 : Int32)).toNatClampNeg) := inb_of S_b22 ⟨by decide, by decide⟩
  obtain ⟨T27, h27, X27, e27, W27, st27⟩ := stI X26 hx hZ e26 Ar_b22 (j := (4 : Int32)) hin65 (g := (mkF m 65 #[.val (.int p1), .val (.int p2), .val (.ref b3), .unset, .unset, .unset, .unset, .unset] [(.int (4 : Int32)), (.int (4 : Int32)), (.ref b22), (.ref b22)])) rfl rfl (hb hby at_65)
  have V_b22_27 := Arv.set Ar_b22 q_b22 S_b22 N_b22 H_b22 G_b22 rfl W27 4 rfl (Nat.le_of_ble_eq_true rfl)      -- the array as it stands now (the place must lie among its first values: Arv.pad with pad_rep lengthens them)
  have K27 : Keep h0 h27 [] := K26.wr W27 (Or.inr sz_b22)
  have N27 := Fr.snoc X27 N26 g_b22
  obtain ⟨cl_b22_70, Ar_b22, q_b22, S_b22, N_b22, H_b22, G_b22⟩ := V_b22_27      -- open the array's fact as it stands now (its cell, kind, length, elements)
  have hin70 : ¬ ((5 : Int32) < 0 ∨ cl_b22_70.slots.size ≤ ((5 : Int32)).toNatClampNeg) := inb_of S_b22 ⟨by decide, by decide⟩
  obtain ⟨T28, h28, X28, e28, W28, st28⟩ := stI X27 hx hZ e27 Ar_b22 (j := (5 : Int32)) hin70 (g := (mkF m 70 #[.val (.int p1), .val (.int p2), .val (.ref b3), .unset, .unset, .unset, .unset, .unset] [(.int (6 : Int32)), (.int (5 : Int32)), (.ref b22), (.ref b22)])) rfl rfl (hb hby at_70)
  have V_b22_28 := Arv.set Ar_b22 q_b22 S_b22 N_b22 H_b22 G_b22 rfl W28 5 rfl (Nat.le_of_ble_eq_true rfl)      -- the array as it stands now (the place must lie among its first values: Arv.pad with pad_rep lengthens them)
  have K28 : Keep h0 h28 [] := K27.wr W28 (Or.inr sz_b22)
  have N28 := Fr.snoc X28 N27 g_b22
  obtain ⟨cl_b3_84, Ar_b3_84, -, S_b3_84, -, H_b3_84, -⟩ := (((((((V_b3_21.ext E22).other W23 (Nat.ne_of_lt (Nat.lt_of_lt_of_le V_b3_21.lt (Nat.le_of_eq g22.symm)))).other W24 (Nat.ne_of_lt (Nat.lt_of_lt_of_le V_b3_21.lt (Nat.le_of_eq g22.symm)))).other W25 (Nat.ne_of_lt (Nat.lt_of_lt_of_le V_b3_21.lt (Nat.le_of_eq g22.symm)))).other W26 (Nat.ne_of_lt (Nat.lt_of_lt_of_le V_b3_21.lt (Nat.le_of_eq g22.symm)))).other W27 (Nat.ne_of_lt (Nat.lt_of_lt_of_le V_b3_21.lt (Nat.le_of_eq g22.symm)))).other W28 (Nat.ne_of_lt (Nat.lt_of_lt_of_le V_b3_21.lt (Nat.le_of_eq g22.symm))))
  have hin84 : ¬ (((p1 &&& (2147483647 : Int32)) % (6 : Int32)) < 0 ∨ cl_b3_84.slots.size ≤ (((p1 &&& (2147483647 : Int32)) % (6 : Int32))).toNatClampNeg) := inb_of S_b3_84 hlo84
  have hat84 : cl_b3_84.slots[(((p1 &&& (2147483647 : Int32)) % (6 : Int32))).toNatClampNeg]? = some (.ref w29) := (H_b3_84 _ (Nat.lt_of_not_le fun q => hin84 (Or.inr q))).trans (congrArg some hel84)
  obtain ⟨cl_b22_113, Ar_b22_113, -, S_b22_113, -, H_b22_113, -⟩ := V_b22_28
  have hin113 : ¬ (((p1 &&& (2147483647 : Int32)) % (6 : Int32)) < 0 ∨ cl_b22_113.slots.size ≤ (((p1 &&& (2147483647 : Int32)) % (6 : Int32))).toNatClampNeg) := inb_of S_b22_113 hlo113
  have hat113 : cl_b22_113.slots[(((p1 &&& (2147483647 : Int32)) % (6 : Int32))).toNatClampNeg]? = some (.int w30) := (H_b22_113 _ (Nat.lt_of_not_le fun q => hin113 (Or.inr q))).trans (congrArg some hel113)
  obtain ⟨cq31, kq31, q31a, q31b, q31c⟩ := isOf hZ e28 ((((((((((((((E_w29.ext E3).wr W6).wr W9).wr W12).wr W15).wr W18).wr W21).ext E22).wr W23).wr W24).wr W25).wr W26).wr W27).wr W28)
  obtain ⟨_, _, ⟨T31, L31, k31, n31⟩, -, X31, ⟨Lc31, hQ31, l31, y31, z31⟩, st31⟩ := X28.virtualBack hx (y := (⟨"com/example/quantorum/quantorum/algebra/Relation", "holds", "(I)Z"⟩ : MethodName)) (z := (⟨"com/example/quantorum/quantorum/algebra/Relation", "holds", "(I)Z"⟩ : MethodName)) hown (mvT hZ (hw _ (List.mem_of_getElem? (i := 18) rfl))) (mvT hZ (hw _ (List.mem_of_getElem? (i := 19) rfl))) (notFace_of_selects (args := #[]) (mvT hZ (hw _ (List.mem_of_getElem? (i := 21) rfl)))) (mvT hZ (hw _ (List.mem_of_getElem? (i := 21) rfl))) (mvT hZ (hw _ (List.mem_of_getElem? (i := 20) rfl))) (by decide) (backOf (W := 0) (hcall h28 K28 (Nat.le_trans Z0 K28.1)) hZ (hw _ (List.mem_of_getElem? (i := 22) rfl)) (hw _ (List.mem_of_getElem? (i := 3) rfl)) (by decide) (by decide)) q31a q31c (g := (mkF m 132 #[.val (.int p1), .val (.int p2), .val (.ref b3), .val (.ref b22), .val (.int ((p1 &&& (2147483647 : Int32)) % (6 : Int32))), .val (.ref w29), .val (.int (2 : Int32)), .val (.int (1 : Int32))] [(.int p2), (.ref w29)])) rfl (by rw [hml]; rfl) (Steps.refl _) (argsL := [(.int p2)]) (rest := []) (lenOf pd_0_0 rfl) rfl (by show 2 * 0 + _ ≤ _; exact Nat.le_of_eq rfl) (hb hby at_132) (fun _ _ => ⟨rfl, e28, (by decide : 2 + 0 ≤ _), (by decide : 12 + 0 ≤ _)⟩)
  dsimp only [Pt.U, Pt.locs, Pt.cells, Pt.slots] at X31 l31 y31 z31 st31 hQ31
  subst l31 y31 z31
  obtain ⟨rfl, N31q, e31⟩ := hQ31
  have N31 := Fr.app N28 N31q
  obtain ⟨fs, hr, hrun, hended, hW, hsame⟩ := X31.leave (v := some (.int (1 : Int32))) (fun h => by rw [Bd.returns] at h; cases h)
  refine ⟨_, _, pre0 _ ?_, hrun, hended, _, _, rfl, ?_, ⟨_, rfl⟩, hW, hsame.mono (by decide) (by decide)⟩
  · show Steps p.tables e below (s₁.setTop (mkF m 0 #[.val (.int p1), .val (.int p2), .unset, .unset, .unset, .unset, .unset, .unset] [])) _
    refine XS.bipush X0.here hx rfl (hb hby at_0) ?_
    show Steps p.tables e below (s₁.setTop (mkF m 2 #[.val (.int p1), .val (.int p2), .unset, .unset, .unset, .unset, .unset, .unset] [(.int (6 : Int32))])) _
    refine st3 _ ?_
    show Steps p.tables e below (T3.setTop (mkF m 5 #[.val (.int p1), .val (.int p2), .unset, .unset, .unset, .unset, .unset, .unset] [(.ref b3)])) _
    refine XS.dup X3.here hx rfl (hb hby at_5) rfl rfl ?_
    show Steps p.tables e below (T3.setTop (mkF m 6 #[.val (.int p1), .val (.int p2), .unset, .unset, .unset, .unset, .unset, .unset] [(.ref b3), (.ref b3)])) _
    refine XS.iconst X3.here hx rfl (hb hby at_6) ?_
    show Steps p.tables e below (T3.setTop (mkF m 7 #[.val (.int p1), .val (.int p2), .unset, .unset, .unset, .unset, .unset, .unset] [(.int (0 : Int32)), (.ref b3), (.ref b3)])) _
    refine st5 _ ?_
    show Steps p.tables e below (T5.setTop (mkF m 10 #[.val (.int p1), .val (.int p2), .unset, .unset, .unset, .unset, .unset, .unset] [(.ref w4), (.int (0 : Int32)), (.ref b3), (.ref b3)])) _
    refine st6 _ ?_
    show Steps p.tables e below (T6.setTop (mkF m 11 #[.val (.int p1), .val (.int p2), .unset, .unset, .unset, .unset, .unset, .unset] [(.ref b3)])) _
    refine XS.dup X6.here hx rfl (hb hby at_11) rfl rfl ?_
    show Steps p.tables e below (T6.setTop (mkF m 12 #[.val (.int p1), .val (.int p2), .unset, .unset, .unset, .unset, .unset, .unset] [(.ref b3), (.ref b3)])) _
    refine XS.iconst X6.here hx rfl (hb hby at_12) ?_
    show Steps p.tables e below (T6.setTop (mkF m 13 #[.val (.int p1), .val (.int p2), .unset, .unset, .unset, .unset, .unset, .unset] [(.int (1 : Int32)), (.ref b3), (.ref b3)])) _
    refine st8 _ ?_
    show Steps p.tables e below (T8.setTop (mkF m 16 #[.val (.int p1), .val (.int p2), .unset, .unset, .unset, .unset, .unset, .unset] [(.ref w7), (.int (1 : Int32)), (.ref b3), (.ref b3)])) _
    refine st9 _ ?_
    show Steps p.tables e below (T9.setTop (mkF m 17 #[.val (.int p1), .val (.int p2), .unset, .unset, .unset, .unset, .unset, .unset] [(.ref b3)])) _
    refine XS.dup X9.here hx rfl (hb hby at_17) rfl rfl ?_
    show Steps p.tables e below (T9.setTop (mkF m 18 #[.val (.int p1), .val (.int p2), .unset, .unset, .unset, .unset, .unset, .unset] [(.ref b3), (.ref b3)])) _
    refine XS.iconst X9.here hx rfl (hb hby at_18) ?_
    show Steps p.tables e below (T9.setTop (mkF m 19 #[.val (.int p1), .val (.int p2), .unset, .unset, .unset, .unset, .unset, .unset] [(.int (2 : Int32)), (.ref b3), (.ref b3)])) _
    refine st11 _ ?_
    show Steps p.tables e below (T11.setTop (mkF m 22 #[.val (.int p1), .val (.int p2), .unset, .unset, .unset, .unset, .unset, .unset] [(.ref w10), (.int (2 : Int32)), (.ref b3), (.ref b3)])) _
    refine st12 _ ?_
    show Steps p.tables e below (T12.setTop (mkF m 23 #[.val (.int p1), .val (.int p2), .unset, .unset, .unset, .unset, .unset, .unset] [(.ref b3)])) _
    refine XS.dup X12.here hx rfl (hb hby at_23) rfl rfl ?_
    show Steps p.tables e below (T12.setTop (mkF m 24 #[.val (.int p1), .val (.int p2), .unset, .unset, .unset, .unset, .unset, .unset] [(.ref b3), (.ref b3)])) _
    refine XS.iconst X12.here hx rfl (hb hby at_24) ?_
    show Steps p.tables e below (T12.setTop (mkF m 25 #[.val (.int p1), .val (.int p2), .unset, .unset, .unset, .unset, .unset, .unset] [(.int (3 : Int32)), (.ref b3), (.ref b3)])) _
    refine st14 _ ?_
    show Steps p.tables e below (T14.setTop (mkF m 28 #[.val (.int p1), .val (.int p2), .unset, .unset, .unset, .unset, .unset, .unset] [(.ref w13), (.int (3 : Int32)), (.ref b3), (.ref b3)])) _
    refine st15 _ ?_
    show Steps p.tables e below (T15.setTop (mkF m 29 #[.val (.int p1), .val (.int p2), .unset, .unset, .unset, .unset, .unset, .unset] [(.ref b3)])) _
    refine XS.dup X15.here hx rfl (hb hby at_29) rfl rfl ?_
    show Steps p.tables e below (T15.setTop (mkF m 30 #[.val (.int p1), .val (.int p2), .unset, .unset, .unset, .unset, .unset, .unset] [(.ref b3), (.ref b3)])) _
    refine XS.iconst X15.here hx rfl (hb hby at_30) ?_
    show Steps p.tables e below (T15.setTop (mkF m 31 #[.val (.int p1), .val (.int p2), .unset, .unset, .unset, .unset, .unset, .unset] [(.int (4 : Int32)), (.ref b3), (.ref b3)])) _
    refine st17 _ ?_
    show Steps p.tables e below (T17.setTop (mkF m 34 #[.val (.int p1), .val (.int p2), .unset, .unset, .unset, .unset, .unset, .unset] [(.ref w16), (.int (4 : Int32)), (.ref b3), (.ref b3)])) _
    refine st18 _ ?_
    show Steps p.tables e below (T18.setTop (mkF m 35 #[.val (.int p1), .val (.int p2), .unset, .unset, .unset, .unset, .unset, .unset] [(.ref b3)])) _
    refine XS.dup X18.here hx rfl (hb hby at_35) rfl rfl ?_
    show Steps p.tables e below (T18.setTop (mkF m 36 #[.val (.int p1), .val (.int p2), .unset, .unset, .unset, .unset, .unset, .unset] [(.ref b3), (.ref b3)])) _
    refine XS.iconst X18.here hx rfl (hb hby at_36) ?_
    show Steps p.tables e below (T18.setTop (mkF m 37 #[.val (.int p1), .val (.int p2), .unset, .unset, .unset, .unset, .unset, .unset] [(.int (5 : Int32)), (.ref b3), (.ref b3)])) _
    refine st20 _ ?_
    show Steps p.tables e below (T20.setTop (mkF m 40 #[.val (.int p1), .val (.int p2), .unset, .unset, .unset, .unset, .unset, .unset] [(.ref w19), (.int (5 : Int32)), (.ref b3), (.ref b3)])) _
    refine st21 _ ?_
    show Steps p.tables e below (T21.setTop (mkF m 41 #[.val (.int p1), .val (.int p2), .unset, .unset, .unset, .unset, .unset, .unset] [(.ref b3)])) _
    refine XS.astoreN X21.here hx rfl (hb hby at_41) rfl rfl (l' := #[.val (.int p1), .val (.int p2), .val (.ref b3), .unset, .unset, .unset, .unset, .unset]) rfl ?_
    show Steps p.tables e below (T21.setTop (mkF m 42 #[.val (.int p1), .val (.int p2), .val (.ref b3), .unset, .unset, .unset, .unset, .unset] [])) _
    refine XS.bipush X21.here hx rfl (hb hby at_42) ?_
    show Steps p.tables e below (T21.setTop (mkF m 44 #[.val (.int p1), .val (.int p2), .val (.ref b3), .unset, .unset, .unset, .unset, .unset] [(.int (6 : Int32))])) _
    refine st22 _ ?_
    show Steps p.tables e below (T22.setTop (mkF m 46 #[.val (.int p1), .val (.int p2), .val (.ref b3), .unset, .unset, .unset, .unset, .unset] [(.ref b22)])) _
    refine XS.dup X22.here hx rfl (hb hby at_46) rfl rfl ?_
    show Steps p.tables e below (T22.setTop (mkF m 47 #[.val (.int p1), .val (.int p2), .val (.ref b3), .unset, .unset, .unset, .unset, .unset] [(.ref b22), (.ref b22)])) _
    refine XS.iconst X22.here hx rfl (hb hby at_47) ?_
    show Steps p.tables e below (T22.setTop (mkF m 48 #[.val (.int p1), .val (.int p2), .val (.ref b3), .unset, .unset, .unset, .unset, .unset] [(.int (0 : Int32)), (.ref b22), (.ref b22)])) _
    refine XS.iconst X22.here hx rfl (hb hby at_48) ?_
    show Steps p.tables e below (T22.setTop (mkF m 49 #[.val (.int p1), .val (.int p2), .val (.ref b3), .unset, .unset, .unset, .unset, .unset] [(.int (2 : Int32)), (.int (0 : Int32)), (.ref b22), (.ref b22)])) _
    refine st23 _ ?_
    show Steps p.tables e below (T23.setTop (mkF m 50 #[.val (.int p1), .val (.int p2), .val (.ref b3), .unset, .unset, .unset, .unset, .unset] [(.ref b22)])) _
    refine XS.dup X23.here hx rfl (hb hby at_50) rfl rfl ?_
    show Steps p.tables e below (T23.setTop (mkF m 51 #[.val (.int p1), .val (.int p2), .val (.ref b3), .unset, .unset, .unset, .unset, .unset] [(.ref b22), (.ref b22)])) _
    refine XS.iconst X23.here hx rfl (hb hby at_51) ?_
    show Steps p.tables e below (T23.setTop (mkF m 52 #[.val (.int p1), .val (.int p2), .val (.ref b3), .unset, .unset, .unset, .unset, .unset] [(.int (1 : Int32)), (.ref b22), (.ref b22)])) _
    refine XS.iconst X23.here hx rfl (hb hby at_52) ?_
    show Steps p.tables e below (T23.setTop (mkF m 53 #[.val (.int p1), .val (.int p2), .val (.ref b3), .unset, .unset, .unset, .unset, .unset] [(.int (5 : Int32)), (.int (1 : Int32)), (.ref b22), (.ref b22)])) _
    refine st24 _ ?_
    show Steps p.tables e below (T24.setTop (mkF m 54 #[.val (.int p1), .val (.int p2), .val (.ref b3), .unset, .unset, .unset, .unset, .unset] [(.ref b22)])) _
    refine XS.dup X24.here hx rfl (hb hby at_54) rfl rfl ?_
    show Steps p.tables e below (T24.setTop (mkF m 55 #[.val (.int p1), .val (.int p2), .val (.ref b3), .unset, .unset, .unset, .unset, .unset] [(.ref b22), (.ref b22)])) _
    refine XS.iconst X24.here hx rfl (hb hby at_55) ?_
    show Steps p.tables e below (T24.setTop (mkF m 56 #[.val (.int p1), .val (.int p2), .val (.ref b3), .unset, .unset, .unset, .unset, .unset] [(.int (2 : Int32)), (.ref b22), (.ref b22)])) _
    refine XS.iconst X24.here hx rfl (hb hby at_56) ?_
    show Steps p.tables e below (T24.setTop (mkF m 57 #[.val (.int p1), .val (.int p2), .val (.ref b3), .unset, .unset, .unset, .unset, .unset] [(.int (1 : Int32)), (.int (2 : Int32)), (.ref b22), (.ref b22)])) _
    refine st25 _ ?_
    show Steps p.tables e below (T25.setTop (mkF m 58 #[.val (.int p1), .val (.int p2), .val (.ref b3), .unset, .unset, .unset, .unset, .unset] [(.ref b22)])) _
    refine XS.dup X25.here hx rfl (hb hby at_58) rfl rfl ?_
    show Steps p.tables e below (T25.setTop (mkF m 59 #[.val (.int p1), .val (.int p2), .val (.ref b3), .unset, .unset, .unset, .unset, .unset] [(.ref b22), (.ref b22)])) _
    refine XS.iconst X25.here hx rfl (hb hby at_59) ?_
    show Steps p.tables e below (T25.setTop (mkF m 60 #[.val (.int p1), .val (.int p2), .val (.ref b3), .unset, .unset, .unset, .unset, .unset] [(.int (3 : Int32)), (.ref b22), (.ref b22)])) _
    refine XS.iconst X25.here hx rfl (hb hby at_60) ?_
    show Steps p.tables e below (T25.setTop (mkF m 61 #[.val (.int p1), .val (.int p2), .val (.ref b3), .unset, .unset, .unset, .unset, .unset] [(.int (3 : Int32)), (.int (3 : Int32)), (.ref b22), (.ref b22)])) _
    refine st26 _ ?_
    show Steps p.tables e below (T26.setTop (mkF m 62 #[.val (.int p1), .val (.int p2), .val (.ref b3), .unset, .unset, .unset, .unset, .unset] [(.ref b22)])) _
    refine XS.dup X26.here hx rfl (hb hby at_62) rfl rfl ?_
    show Steps p.tables e below (T26.setTop (mkF m 63 #[.val (.int p1), .val (.int p2), .val (.ref b3), .unset, .unset, .unset, .unset, .unset] [(.ref b22), (.ref b22)])) _
    refine XS.iconst X26.here hx rfl (hb hby at_63) ?_
    show Steps p.tables e below (T26.setTop (mkF m 64 #[.val (.int p1), .val (.int p2), .val (.ref b3), .unset, .unset, .unset, .unset, .unset] [(.int (4 : Int32)), (.ref b22), (.ref b22)])) _
    refine XS.iconst X26.here hx rfl (hb hby at_64) ?_
    show Steps p.tables e below (T26.setTop (mkF m 65 #[.val (.int p1), .val (.int p2), .val (.ref b3), .unset, .unset, .unset, .unset, .unset] [(.int (4 : Int32)), (.int (4 : Int32)), (.ref b22), (.ref b22)])) _
    refine st27 _ ?_
    show Steps p.tables e below (T27.setTop (mkF m 66 #[.val (.int p1), .val (.int p2), .val (.ref b3), .unset, .unset, .unset, .unset, .unset] [(.ref b22)])) _
    refine XS.dup X27.here hx rfl (hb hby at_66) rfl rfl ?_
    show Steps p.tables e below (T27.setTop (mkF m 67 #[.val (.int p1), .val (.int p2), .val (.ref b3), .unset, .unset, .unset, .unset, .unset] [(.ref b22), (.ref b22)])) _
    refine XS.iconst X27.here hx rfl (hb hby at_67) ?_
    show Steps p.tables e below (T27.setTop (mkF m 68 #[.val (.int p1), .val (.int p2), .val (.ref b3), .unset, .unset, .unset, .unset, .unset] [(.int (5 : Int32)), (.ref b22), (.ref b22)])) _
    refine XS.bipush X27.here hx rfl (hb hby at_68) ?_
    show Steps p.tables e below (T27.setTop (mkF m 70 #[.val (.int p1), .val (.int p2), .val (.ref b3), .unset, .unset, .unset, .unset, .unset] [(.int (6 : Int32)), (.int (5 : Int32)), (.ref b22), (.ref b22)])) _
    refine st28 _ ?_
    show Steps p.tables e below (T28.setTop (mkF m 71 #[.val (.int p1), .val (.int p2), .val (.ref b3), .unset, .unset, .unset, .unset, .unset] [(.ref b22)])) _
    refine XS.astoreN X28.here hx rfl (hb hby at_71) rfl rfl (l' := #[.val (.int p1), .val (.int p2), .val (.ref b3), .val (.ref b22), .unset, .unset, .unset, .unset]) rfl ?_
    show Steps p.tables e below (T28.setTop (mkF m 72 #[.val (.int p1), .val (.int p2), .val (.ref b3), .val (.ref b22), .unset, .unset, .unset, .unset] [])) _
    refine XS.iloadN X28.here hx rfl (hb hby at_72) rfl ?_
    show Steps p.tables e below (T28.setTop (mkF m 73 #[.val (.int p1), .val (.int p2), .val (.ref b3), .val (.ref b22), .unset, .unset, .unset, .unset] [(.int p1)])) _
    refine X28.ldcInt hx hown (mvT hZ (hw _ (List.mem_of_getElem? (i := 17) rfl))) (g := (mkF m 73 #[.val (.int p1), .val (.int p2), .val (.ref b3), .val (.ref b22), .unset, .unset, .unset, .unset] [(.int p1)])) rfl (hb hby at_73) _ ?_
    show Steps p.tables e below (T28.setTop (mkF m 75 #[.val (.int p1), .val (.int p2), .val (.ref b3), .val (.ref b22), .unset, .unset, .unset, .unset] [(.int (2147483647 : Int32)), (.int p1)])) _
    refine XS.iand X28.here hx rfl (hb hby at_75) rfl ?_
    show Steps p.tables e below (T28.setTop (mkF m 76 #[.val (.int p1), .val (.int p2), .val (.ref b3), .val (.ref b22), .unset, .unset, .unset, .unset] [(.int (p1 &&& (2147483647 : Int32)))])) _
    refine XS.bipush X28.here hx rfl (hb hby at_76) ?_
    show Steps p.tables e below (T28.setTop (mkF m 78 #[.val (.int p1), .val (.int p2), .val (.ref b3), .val (.ref b22), .unset, .unset, .unset, .unset] [(.int (6 : Int32)), (.int (p1 &&& (2147483647 : Int32)))])) _
    refine iremM X28 hx rfl (hb hby at_78) rfl (by decide) ?_
    show Steps p.tables e below (T28.setTop (mkF m 79 #[.val (.int p1), .val (.int p2), .val (.ref b3), .val (.ref b22), .unset, .unset, .unset, .unset] [(.int ((p1 &&& (2147483647 : Int32)) % (6 : Int32)))])) _
    refine XS.istore X28.here hx rfl (hb hby at_79) rfl (l' := #[.val (.int p1), .val (.int p2), .val (.ref b3), .val (.ref b22), .val (.int ((p1 &&& (2147483647 : Int32)) % (6 : Int32))), .unset, .unset, .unset]) rfl ?_
    show Steps p.tables e below (T28.setTop (mkF m 81 #[.val (.int p1), .val (.int p2), .val (.ref b3), .val (.ref b22), .val (.int ((p1 &&& (2147483647 : Int32)) % (6 : Int32))), .unset, .unset, .unset] [])) _
    refine XS.aloadN X28.here hx rfl (hb hby at_81) rfl rfl ?_
    show Steps p.tables e below (T28.setTop (mkF m 82 #[.val (.int p1), .val (.int p2), .val (.ref b3), .val (.ref b22), .val (.int ((p1 &&& (2147483647 : Int32)) % (6 : Int32))), .unset, .unset, .unset] [(.ref b3)])) _
    refine XS.iload X28.here hx rfl (hb hby at_82) rfl ?_
    show Steps p.tables e below (T28.setTop (mkF m 84 #[.val (.int p1), .val (.int p2), .val (.ref b3), .val (.ref b22), .val (.int ((p1 &&& (2147483647 : Int32)) % (6 : Int32))), .unset, .unset, .unset] [(.int ((p1 &&& (2147483647 : Int32)) % (6 : Int32))), (.ref b3)])) _
    refine X28.aaload hx (j := ((p1 &&& (2147483647 : Int32)) % (6 : Int32))) (v := (.ref w29)) (by rw [e28]; exact Ar_b3_84.1) (State.isArrayOf_alike hZ.alike Ar_b3_84.2.1) rfl Ar_b3_84.2.2 hin84 hat84 (g := (mkF m 84 #[.val (.int p1), .val (.int p2), .val (.ref b3), .val (.ref b22), .val (.int ((p1 &&& (2147483647 : Int32)) % (6 : Int32))), .unset, .unset, .unset] [(.int ((p1 &&& (2147483647 : Int32)) % (6 : Int32))), (.ref b3)])) rfl rfl (hb hby at_84) _ ?_
    show Steps p.tables e below (T28.setTop (mkF m 85 #[.val (.int p1), .val (.int p2), .val (.ref b3), .val (.ref b22), .val (.int ((p1 &&& (2147483647 : Int32)) % (6 : Int32))), .unset, .unset, .unset] [(.ref w29)])) _
    refine XS.astore X28.here hx rfl (hb hby at_85) rfl rfl (l' := #[.val (.int p1), .val (.int p2), .val (.ref b3), .val (.ref b22), .val (.int ((p1 &&& (2147483647 : Int32)) % (6 : Int32))), .val (.ref w29), .unset, .unset]) rfl ?_
    show Steps p.tables e below (T28.setTop (mkF m 87 #[.val (.int p1), .val (.int p2), .val (.ref b3), .val (.ref b22), .val (.int ((p1 &&& (2147483647 : Int32)) % (6 : Int32))), .val (.ref w29), .unset, .unset] [])) _
    refine XS.iloadN X28.here hx rfl (hb hby at_87) rfl ?_
    show Steps p.tables e below (T28.setTop (mkF m 88 #[.val (.int p1), .val (.int p2), .val (.ref b3), .val (.ref b22), .val (.int ((p1 &&& (2147483647 : Int32)) % (6 : Int32))), .val (.ref w29), .unset, .unset] [(.int p2)])) _
    refine XS.ifYes X28.here hx rfl (pc0 := 88) (pc' := 97) rfl (hb hby at_88) rfl ((if0 _ _).trans (flt hc88).2.1) (by decide) (by decide) ?_
    show Steps p.tables e below (T28.setTop (mkF m 97 #[.val (.int p1), .val (.int p2), .val (.ref b3), .val (.ref b22), .val (.int ((p1 &&& (2147483647 : Int32)) % (6 : Int32))), .val (.ref w29), .unset, .unset] [])) _
    refine XS.iloadN X28.here hx rfl (hb hby at_97) rfl ?_
    show Steps p.tables e below (T28.setTop (mkF m 98 #[.val (.int p1), .val (.int p2), .val (.ref b3), .val (.ref b22), .val (.int ((p1 &&& (2147483647 : Int32)) % (6 : Int32))), .val (.ref w29), .unset, .unset] [(.int p2)])) _
    refine XS.ifYes X28.here hx rfl (pc0 := 98) (pc' := 107) rfl (hb hby at_98) rfl ((if0 _ _).trans (feq hc98).2) (by decide) (by decide) ?_
    show Steps p.tables e below (T28.setTop (mkF m 107 #[.val (.int p1), .val (.int p2), .val (.ref b3), .val (.ref b22), .val (.int ((p1 &&& (2147483647 : Int32)) % (6 : Int32))), .val (.ref w29), .unset, .unset] [])) _
    refine XS.iconst X28.here hx rfl (hb hby at_107) ?_
    show Steps p.tables e below (T28.setTop (mkF m 108 #[.val (.int p1), .val (.int p2), .val (.ref b3), .val (.ref b22), .val (.int ((p1 &&& (2147483647 : Int32)) % (6 : Int32))), .val (.ref w29), .unset, .unset] [(.int (2 : Int32))])) _
    refine XS.istore X28.here hx rfl (hb hby at_108) rfl (l' := #[.val (.int p1), .val (.int p2), .val (.ref b3), .val (.ref b22), .val (.int ((p1 &&& (2147483647 : Int32)) % (6 : Int32))), .val (.ref w29), .val (.int (2 : Int32)), .unset]) rfl ?_
    show Steps p.tables e below (T28.setTop (mkF m 110 #[.val (.int p1), .val (.int p2), .val (.ref b3), .val (.ref b22), .val (.int ((p1 &&& (2147483647 : Int32)) % (6 : Int32))), .val (.ref w29), .val (.int (2 : Int32)), .unset] [])) _
    refine XS.aloadN X28.here hx rfl (hb hby at_110) rfl rfl ?_
    show Steps p.tables e below (T28.setTop (mkF m 111 #[.val (.int p1), .val (.int p2), .val (.ref b3), .val (.ref b22), .val (.int ((p1 &&& (2147483647 : Int32)) % (6 : Int32))), .val (.ref w29), .val (.int (2 : Int32)), .unset] [(.ref b22)])) _
    refine XS.iload X28.here hx rfl (hb hby at_111) rfl ?_
    show Steps p.tables e below (T28.setTop (mkF m 113 #[.val (.int p1), .val (.int p2), .val (.ref b3), .val (.ref b22), .val (.int ((p1 &&& (2147483647 : Int32)) % (6 : Int32))), .val (.ref w29), .val (.int (2 : Int32)), .unset] [(.int ((p1 &&& (2147483647 : Int32)) % (6 : Int32))), (.ref b22)])) _
    refine X28.iaload hx (j := ((p1 &&& (2147483647 : Int32)) % (6 : Int32))) (v := (.int w30)) (by rw [e28]; exact Ar_b22_113.1) (State.isArrayOf_alike hZ.alike Ar_b22_113.2.1) Ar_b22_113.2.2 hin113 hat113 (g := (mkF m 113 #[.val (.int p1), .val (.int p2), .val (.ref b3), .val (.ref b22), .val (.int ((p1 &&& (2147483647 : Int32)) % (6 : Int32))), .val (.ref w29), .val (.int (2 : Int32)), .unset] [(.int ((p1 &&& (2147483647 : Int32)) % (6 : Int32))), (.ref b22)])) rfl rfl (hb hby at_113) _ ?_
    show Steps p.tables e below (T28.setTop (mkF m 114 #[.val (.int p1), .val (.int p2), .val (.ref b3), .val (.ref b22), .val (.int ((p1 &&& (2147483647 : Int32)) % (6 : Int32))), .val (.ref w29), .val (.int (2 : Int32)), .unset] [(.int w30)])) _
    refine XS.iload X28.here hx rfl (hb hby at_114) rfl ?_
    show Steps p.tables e below (T28.setTop (mkF m 116 #[.val (.int p1), .val (.int p2), .val (.ref b3), .val (.ref b22), .val (.int ((p1 &&& (2147483647 : Int32)) % (6 : Int32))), .val (.ref w29), .val (.int (2 : Int32)), .unset] [(.int (2 : Int32)), (.int w30)])) _
    refine XS.ishr X28.here hx rfl (hb hby at_116) rfl ?_
    show Steps p.tables e below (T28.setTop (mkF m 117 #[.val (.int p1), .val (.int p2), .val (.ref b3), .val (.ref b22), .val (.int ((p1 &&& (2147483647 : Int32)) % (6 : Int32))), .val (.ref w29), .val (.int (2 : Int32)), .unset] [(.int (w30 >>> ((2 : Int32) &&& 31)))])) _
    refine XS.iconst X28.here hx rfl (hb hby at_117) ?_
    show Steps p.tables e below (T28.setTop (mkF m 118 #[.val (.int p1), .val (.int p2), .val (.ref b3), .val (.ref b22), .val (.int ((p1 &&& (2147483647 : Int32)) % (6 : Int32))), .val (.ref w29), .val (.int (2 : Int32)), .unset] [(.int (1 : Int32)), (.int (w30 >>> ((2 : Int32) &&& 31)))])) _
    refine XS.iand X28.here hx rfl (hb hby at_118) rfl ?_
    show Steps p.tables e below (T28.setTop (mkF m 119 #[.val (.int p1), .val (.int p2), .val (.ref b3), .val (.ref b22), .val (.int ((p1 &&& (2147483647 : Int32)) % (6 : Int32))), .val (.ref w29), .val (.int (2 : Int32)), .unset] [(.int ((w30 >>> ((2 : Int32) &&& 31)) &&& (1 : Int32)))])) _
    refine XS.ifNo X28.here hx rfl (hb hby at_119) rfl ((if0 _ _).trans (feq hc119).1) ?_
    show Steps p.tables e below (T28.setTop (mkF m 122 #[.val (.int p1), .val (.int p2), .val (.ref b3), .val (.ref b22), .val (.int ((p1 &&& (2147483647 : Int32)) % (6 : Int32))), .val (.ref w29), .val (.int (2 : Int32)), .unset] [])) _
    refine XS.iconst X28.here hx rfl (hb hby at_122) ?_
    show Steps p.tables e below (T28.setTop (mkF m 123 #[.val (.int p1), .val (.int p2), .val (.ref b3), .val (.ref b22), .val (.int ((p1 &&& (2147483647 : Int32)) % (6 : Int32))), .val (.ref w29), .val (.int (2 : Int32)), .unset] [(.int (1 : Int32))])) _
    refine XS.goto X28.here hx rfl (pc0 := 123) (pc' := 127) rfl (hb hby at_123) (by decide) (by decide) ?_
    show Steps p.tables e below (T28.setTop (mkF m 127 #[.val (.int p1), .val (.int p2), .val (.ref b3), .val (.ref b22), .val (.int ((p1 &&& (2147483647 : Int32)) % (6 : Int32))), .val (.ref w29), .val (.int (2 : Int32)), .unset] [(.int (1 : Int32))])) _
    refine XS.istore X28.here hx rfl (hb hby at_127) rfl (l' := #[.val (.int p1), .val (.int p2), .val (.ref b3), .val (.ref b22), .val (.int ((p1 &&& (2147483647 : Int32)) % (6 : Int32))), .val (.ref w29), .val (.int (2 : Int32)), .val (.int (1 : Int32))]) rfl ?_
    show Steps p.tables e below (T28.setTop (mkF m 129 #[.val (.int p1), .val (.int p2), .val (.ref b3), .val (.ref b22), .val (.int ((p1 &&& (2147483647 : Int32)) % (6 : Int32))), .val (.ref w29), .val (.int (2 : Int32)), .val (.int (1 : Int32))] [])) _
    refine XS.aload X28.here hx rfl (hb hby at_129) rfl rfl ?_
    show Steps p.tables e below (T28.setTop (mkF m 131 #[.val (.int p1), .val (.int p2), .val (.ref b3), .val (.ref b22), .val (.int ((p1 &&& (2147483647 : Int32)) % (6 : Int32))), .val (.ref w29), .val (.int (2 : Int32)), .val (.int (1 : Int32))] [(.ref w29)])) _
    refine XS.iloadN X28.here hx rfl (hb hby at_131) rfl ?_
    show Steps p.tables e below (T28.setTop (mkF m 132 #[.val (.int p1), .val (.int p2), .val (.ref b3), .val (.ref b22), .val (.int ((p1 &&& (2147483647 : Int32)) % (6 : Int32))), .val (.ref w29), .val (.int (2 : Int32)), .val (.int (1 : Int32))] [(.int p2), (.ref w29)])) _
    refine st31.trans ?_
    show Steps p.tables e below (T31.setTop (mkF m 135 #[.val (.int p1), .val (.int p2), .val (.ref b3), .val (.ref b22), .val (.int ((p1 &&& (2147483647 : Int32)) % (6 : Int32))), .val (.ref w29), .val (.int (2 : Int32)), .val (.int (1 : Int32))] [(.int (1 : Int32))])) _
    refine XS.iload X31.here hx rfl (hb hby at_135) rfl ?_
    show Steps p.tables e below (T31.setTop (mkF m 137 #[.val (.int p1), .val (.int p2), .val (.ref b3), .val (.ref b22), .val (.int ((p1 &&& (2147483647 : Int32)) % (6 : Int32))), .val (.ref w29), .val (.int (2 : Int32)), .val (.int (1 : Int32))] [(.int (1 : Int32)), (.int (1 : Int32))])) _
    refine XS.icmpNo X31.here hx rfl (hb hby at_137) rfl (teq (rfl : (1 : Int32) = (1 : Int32))).2 ?_
    show Steps p.tables e below (T31.setTop (mkF m 140 #[.val (.int p1), .val (.int p2), .val (.ref b3), .val (.ref b22), .val (.int ((p1 &&& (2147483647 : Int32)) % (6 : Int32))), .val (.ref w29), .val (.int (2 : Int32)), .val (.int (1 : Int32))] [])) _
    refine XS.iconst X31.here hx rfl (hb hby at_140) ?_
    show Steps p.tables e below (T31.setTop (mkF m 141 #[.val (.int p1), .val (.int p2), .val (.ref b3), .val (.ref b22), .val (.int ((p1 &&& (2147483647 : Int32)) % (6 : Int32))), .val (.ref w29), .val (.int (2 : Int32)), .val (.int (1 : Int32))] [(.int (1 : Int32))])) _
    refine XS.goto X31.here hx rfl (pc0 := 141) (pc' := 145) rfl (hb hby at_141) (by decide) (by decide) ?_
    show Steps p.tables e below (T31.setTop (mkF m 145 #[.val (.int p1), .val (.int p2), .val (.ref b3), .val (.ref b22), .val (.int ((p1 &&& (2147483647 : Int32)) % (6 : Int32))), .val (.ref w29), .val (.int (2 : Int32)), .val (.int (1 : Int32))] [(.int (1 : Int32))])) _
    exact retN X31 hx (t := .boolean) Bd.returns (by simp) (hb hby at_145) hr
  · show Q0 n0 _ _
    exact ⟨rfl, N31⟩
theorem own_in6 (x : Int32) : ¬ ((x &&& (2147483647 : Int32)) % (6 : Int32)) < 0 ∧ ((x &&& (2147483647 : Int32)) % (6 : Int32)) < (6 : Int32) := by
  rcases own_mod6 x with h | h | h | h | h | h <;> (rw [h]; decide)
theorem own_nlt {x : Int32} (h : x < (0 : Int32)) : ¬ (0 : Int32) < x := by
  rw [Int32.lt_iff_toInt_lt] at h ⊢; omega
theorem own_sign (x : Int32) : x < (0 : Int32) ∨ (¬ x < (0 : Int32) ∧ x = (0 : Int32)) ∨ (¬ x < (0 : Int32) ∧ ¬ x = (0 : Int32) ∧ (0 : Int32) < x) := by
  by_cases h1 : x < (0 : Int32)
  · exact Or.inl h1
  by_cases h2 : x = (0 : Int32)
  · exact Or.inr (Or.inl ⟨h1, h2⟩)
  refine Or.inr (Or.inr ⟨h1, h2, ?_⟩)
  rw [Int32.lt_iff_toInt_lt] at h1 ⊢
  rw [← Int32.toInt_inj] at h2
  omega
set_option maxRecDepth 65536 in
set_option maxHeartbeats 40000000 in
theorem comes_1 {Post : Tables → Env → Array Value → State → Outcome → State → Prop} (hpost : ∀ tb e args s v u, (limb_1_1.after args s (.returned v) u = true ∧ limb_1_2.after args s (.returned v) u = true ∧ True) → FrameEnd s (.returned v) u (Jvm.fieldLocs frame_1_writes args s ++ Jvm.arrayLocs frame_1_arrays args s ++ Jvm.staticLocs frame_1_statics s) 16 128 → Post tb e args s (.returned v) u) :
    ArmFor flags0 classFile x code maxLocals ret World_1 tables_1 room_1 Calls_1 rest_1 Pre_1 Post := by
  intro l hfl _ _ p e ha hc hk s m args below hf hA hF happ hP
  obtain ⟨hcalls, hrest, hpre⟩ := hP
  obtain ⟨-, -, -, hnamed, -, -, -, hat⟩ := (Spec.applies_iff hf).mp happ
  obtain ⟨hg, hn⟩ := and_e (Cond.before_iff.mp (show (Jvm.Cond.and given_1 narrow_1).before args s = true from hpre))
  obtain ⟨g32, g33⟩ := and_e hg
  obtain ⟨g34, g35⟩ := and_e g33
  obtain ⟨w0, w1, rfl⟩ : ∃ w0 w1 : Value, args = #[w0, w1] := by
    have hs : args.size = 2 := by simpa [Cond.value, given_1] using g32
    obtain ⟨L⟩ := args
    match L, hs with
    | [w0, w1], _ => exact ⟨w0, w1, rfl⟩
  have hw := fun d (hd : d ∈ tables_1) => atoms_spec (ws := Jvm.Cond.code x code maxLocals ret :: tables_1) hat d (List.mem_cons_of_mem _ hd)
  have hfit : Fit s := fun {y c} hc i hi => by
    obtain ⟨ha, rfl⟩ := Array.getElem?_eq_some_iff.mp hc
    have q := List.all_eq_true.mp ((Array.all_eq_true_iff_forall_mem.mp hF) _ (Array.getElem_mem ha)) i (List.mem_range.mpr hi)
    simpa [Array.getElem?_eq_getElem hi] using q
  obtain ⟨i0, ei0⟩ := is_v g34
  obtain rfl : w0 = (.int i0) := Option.some.inj ei0
  obtain ⟨i1, ei1⟩ := is_v g35
  obtain rfl : w1 = (.int i1) := Option.some.inj ei1
  obtain ⟨n_exactly_EQUAL, hn⟩ := and_e hn
  obtain ⟨n_exactly_NOT_EQUAL, hn⟩ := and_e hn
  obtain ⟨n_exactly_LESS, hn⟩ := and_e hn
  obtain ⟨n_exactly_LESS_OR_EQUAL, hn⟩ := and_e hn
  obtain ⟨n_exactly_GREATER, hn⟩ := and_e hn
  obtain ⟨n_exactly_GREATER_OR_EQUAL, hn⟩ := and_e hn
  obtain ⟨n_eq_EQUAL, hn⟩ := and_e hn
  obtain ⟨n_eq_LESS, hn⟩ := and_e hn
  obtain ⟨n_eq_GREATER, hn⟩ := and_e hn
  obtain ⟨n_eq_NOT_EQUAL, hn⟩ := and_e hn
  obtain ⟨n_eq_GREATER_OR_EQUAL, hn⟩ := and_e hn
  have n_eq_LESS_OR_EQUAL := hn
  obtain ⟨b_EQUAL, t_EQUAL, S_EQUAL, A_EQUAL⟩ := own_at n_exactly_EQUAL (hw _ (List.mem_of_getElem? (i := 3) rfl)) (hw _ (List.mem_of_getElem? (i := 4) rfl))
  have F_EQUAL := own_fld t_EQUAL n_eq_EQUAL
  obtain ⟨b_NOT_EQUAL, t_NOT_EQUAL, S_NOT_EQUAL, A_NOT_EQUAL⟩ := own_at n_exactly_NOT_EQUAL (hw _ (List.mem_of_getElem? (i := 3) rfl)) (hw _ (List.mem_of_getElem? (i := 7) rfl))
  have F_NOT_EQUAL := own_fld t_NOT_EQUAL n_eq_NOT_EQUAL
  obtain ⟨b_LESS, t_LESS, S_LESS, A_LESS⟩ := own_at n_exactly_LESS (hw _ (List.mem_of_getElem? (i := 3) rfl)) (hw _ (List.mem_of_getElem? (i := 9) rfl))
  have F_LESS := own_fld t_LESS n_eq_LESS
  obtain ⟨b_LESS_OR_EQUAL, t_LESS_OR_EQUAL, S_LESS_OR_EQUAL, A_LESS_OR_EQUAL⟩ := own_at n_exactly_LESS_OR_EQUAL (hw _ (List.mem_of_getElem? (i := 3) rfl)) (hw _ (List.mem_of_getElem? (i := 11) rfl))
  have F_LESS_OR_EQUAL := own_fld t_LESS_OR_EQUAL n_eq_LESS_OR_EQUAL
  obtain ⟨b_GREATER, t_GREATER, S_GREATER, A_GREATER⟩ := own_at n_exactly_GREATER (hw _ (List.mem_of_getElem? (i := 3) rfl)) (hw _ (List.mem_of_getElem? (i := 13) rfl))
  have F_GREATER := own_fld t_GREATER n_eq_GREATER
  obtain ⟨b_GREATER_OR_EQUAL, t_GREATER_OR_EQUAL, S_GREATER_OR_EQUAL, A_GREATER_OR_EQUAL⟩ := own_at n_exactly_GREATER_OR_EQUAL (hw _ (List.mem_of_getElem? (i := 3) rfl)) (hw _ (List.mem_of_getElem? (i := 15) rfl))
  have F_GREATER_OR_EQUAL := own_fld t_GREATER_OR_EQUAL n_eq_GREATER_OR_EQUAL
  have key : MetFree l x (head1 (Jvm.Cond.code x code maxLocals ret :: tables_1) room_1) (fun a U => a = #[(.int i0), (.int i1)] ∧ s.Warmed39 U.vm ∧ U.heap = s.heap) (fun _ _ _ _ _ => True) (fun _ U o U' => ∃ v L, o = .returned v ∧ Q0 s.heap.size v L ∧ FrameEnd U o U' L room_1.cells room_1.slots) := by
    have hlo : ¬ ((i0 &&& (2147483647 : Int32)) % (6 : Int32)) < 0 ∧ ((i0 &&& (2147483647 : Int32)) % (6 : Int32)) < (6 : Int32) := own_in6 i0
    have hsg : i1 < (0 : Int32) ∨ (¬ i1 < (0 : Int32) ∧ i1 = (0 : Int32)) ∨ (¬ i1 < (0 : Int32) ∧ ¬ i1 = (0 : Int32) ∧ (0 : Int32) < i1) := own_sign i1
    rcases own_mod6 i0 with hj | hj | hj | hj | hj | hj
    · rcases hsg with hs | hs | hs
      · exact rm0_00 l s _ hw tables_1 i0 i1 b_EQUAL b_NOT_EQUAL b_LESS b_LESS_OR_EQUAL b_GREATER b_GREATER_OR_EQUAL b_EQUAL (2 : Int32) s.heap s.heap.size (Nat.le_refl _) S_EQUAL A_EQUAL S_NOT_EQUAL A_NOT_EQUAL S_LESS A_LESS S_LESS_OR_EQUAL A_LESS_OR_EQUAL S_GREATER A_GREATER S_GREATER_OR_EQUAL A_GREATER_OR_EQUAL hlo (by rw [hj]; rfl) hlo (by rw [hj]; rfl) A_EQUAL (fun h KH Zh => rm1_0t l s _ hw [] b_EQUAL i1 h s.heap.size Zh (A_EQUAL.keep KH) (F_EQUAL.keep KH nin0) (fun q => absurd (q ▸ hs) (by decide))) hs (by decide)
      · exact rm0_11 l s _ hw tables_1 i0 i1 b_EQUAL b_NOT_EQUAL b_LESS b_LESS_OR_EQUAL b_GREATER b_GREATER_OR_EQUAL b_EQUAL (2 : Int32) s.heap s.heap.size (Nat.le_refl _) S_EQUAL A_EQUAL S_NOT_EQUAL A_NOT_EQUAL S_LESS A_LESS S_LESS_OR_EQUAL A_LESS_OR_EQUAL S_GREATER A_GREATER S_GREATER_OR_EQUAL A_GREATER_OR_EQUAL hlo (by rw [hj]; rfl) hlo (by rw [hj]; rfl) A_EQUAL (fun h KH Zh => rm1_0f l s _ hw [] b_EQUAL i1 h s.heap.size Zh (A_EQUAL.keep KH) (F_EQUAL.keep KH nin0) hs.2) hs.1 hs.2 (by decide)
      · exact rm0_20 l s _ hw tables_1 i0 i1 b_EQUAL b_NOT_EQUAL b_LESS b_LESS_OR_EQUAL b_GREATER b_GREATER_OR_EQUAL b_EQUAL (2 : Int32) s.heap s.heap.size (Nat.le_refl _) S_EQUAL A_EQUAL S_NOT_EQUAL A_NOT_EQUAL S_LESS A_LESS S_LESS_OR_EQUAL A_LESS_OR_EQUAL S_GREATER A_GREATER S_GREATER_OR_EQUAL A_GREATER_OR_EQUAL hlo (by rw [hj]; rfl) hlo (by rw [hj]; rfl) A_EQUAL (fun h KH Zh => rm1_0t l s _ hw [] b_EQUAL i1 h s.heap.size Zh (A_EQUAL.keep KH) (F_EQUAL.keep KH nin0) hs.2.1) hs.1 hs.2.1 (by decide)
    · rcases hsg with hs | hs | hs
      · exact rm0_01 l s _ hw tables_1 i0 i1 b_EQUAL b_NOT_EQUAL b_LESS b_LESS_OR_EQUAL b_GREATER b_GREATER_OR_EQUAL b_NOT_EQUAL (5 : Int32) s.heap s.heap.size (Nat.le_refl _) S_EQUAL A_EQUAL S_NOT_EQUAL A_NOT_EQUAL S_LESS A_LESS S_LESS_OR_EQUAL A_LESS_OR_EQUAL S_GREATER A_GREATER S_GREATER_OR_EQUAL A_GREATER_OR_EQUAL hlo (by rw [hj]; rfl) hlo (by rw [hj]; rfl) A_NOT_EQUAL (fun h KH Zh => rm1_1f l s _ hw [] b_NOT_EQUAL i1 h s.heap.size Zh (A_NOT_EQUAL.keep KH) (F_NOT_EQUAL.keep KH nin0) (fun q => absurd (q ▸ hs) (by decide))) hs (by decide)
      · exact rm0_10 l s _ hw tables_1 i0 i1 b_EQUAL b_NOT_EQUAL b_LESS b_LESS_OR_EQUAL b_GREATER b_GREATER_OR_EQUAL b_NOT_EQUAL (5 : Int32) s.heap s.heap.size (Nat.le_refl _) S_EQUAL A_EQUAL S_NOT_EQUAL A_NOT_EQUAL S_LESS A_LESS S_LESS_OR_EQUAL A_LESS_OR_EQUAL S_GREATER A_GREATER S_GREATER_OR_EQUAL A_GREATER_OR_EQUAL hlo (by rw [hj]; rfl) hlo (by rw [hj]; rfl) A_NOT_EQUAL (fun h KH Zh => rm1_1t l s _ hw [] b_NOT_EQUAL i1 h s.heap.size Zh (A_NOT_EQUAL.keep KH) (F_NOT_EQUAL.keep KH nin0) hs.2) hs.1 hs.2 (by decide)
      · exact rm0_21 l s _ hw tables_1 i0 i1 b_EQUAL b_NOT_EQUAL b_LESS b_LESS_OR_EQUAL b_GREATER b_GREATER_OR_EQUAL b_NOT_EQUAL (5 : Int32) s.heap s.heap.size (Nat.le_refl _) S_EQUAL A_EQUAL S_NOT_EQUAL A_NOT_EQUAL S_LESS A_LESS S_LESS_OR_EQUAL A_LESS_OR_EQUAL S_GREATER A_GREATER S_GREATER_OR_EQUAL A_GREATER_OR_EQUAL hlo (by rw [hj]; rfl) hlo (by rw [hj]; rfl) A_NOT_EQUAL (fun h KH Zh => rm1_1f l s _ hw [] b_NOT_EQUAL i1 h s.heap.size Zh (A_NOT_EQUAL.keep KH) (F_NOT_EQUAL.keep KH nin0) hs.2.1) hs.1 hs.2.1 (by decide)
    · rcases hsg with hs | hs | hs
      · exact rm0_01 l s _ hw tables_1 i0 i1 b_EQUAL b_NOT_EQUAL b_LESS b_LESS_OR_EQUAL b_GREATER b_GREATER_OR_EQUAL b_LESS (1 : Int32) s.heap s.heap.size (Nat.le_refl _) S_EQUAL A_EQUAL S_NOT_EQUAL A_NOT_EQUAL S_LESS A_LESS S_LESS_OR_EQUAL A_LESS_OR_EQUAL S_GREATER A_GREATER S_GREATER_OR_EQUAL A_GREATER_OR_EQUAL hlo (by rw [hj]; rfl) hlo (by rw [hj]; rfl) A_LESS (fun h KH Zh => rm1_2f l s _ hw [] b_LESS i1 h s.heap.size Zh (A_LESS.keep KH) (F_LESS.keep KH nin0) hs) hs (by decide)
      · exact rm0_10 l s _ hw tables_1 i0 i1 b_EQUAL b_NOT_EQUAL b_LESS b_LESS_OR_EQUAL b_GREATER b_GREATER_OR_EQUAL b_LESS (1 : Int32) s.heap s.heap.size (Nat.le_refl _) S_EQUAL A_EQUAL S_NOT_EQUAL A_NOT_EQUAL S_LESS A_LESS S_LESS_OR_EQUAL A_LESS_OR_EQUAL S_GREATER A_GREATER S_GREATER_OR_EQUAL A_GREATER_OR_EQUAL hlo (by rw [hj]; rfl) hlo (by rw [hj]; rfl) A_LESS (fun h KH Zh => rm1_2t l s _ hw [] b_LESS i1 h s.heap.size Zh (A_LESS.keep KH) (F_LESS.keep KH nin0) hs.1) hs.1 hs.2 (by decide)
      · exact rm0_20 l s _ hw tables_1 i0 i1 b_EQUAL b_NOT_EQUAL b_LESS b_LESS_OR_EQUAL b_GREATER b_GREATER_OR_EQUAL b_LESS (1 : Int32) s.heap s.heap.size (Nat.le_refl _) S_EQUAL A_EQUAL S_NOT_EQUAL A_NOT_EQUAL S_LESS A_LESS S_LESS_OR_EQUAL A_LESS_OR_EQUAL S_GREATER A_GREATER S_GREATER_OR_EQUAL A_GREATER_OR_EQUAL hlo (by rw [hj]; rfl) hlo (by rw [hj]; rfl) A_LESS (fun h KH Zh => rm1_2t l s _ hw [] b_LESS i1 h s.heap.size Zh (A_LESS.keep KH) (F_LESS.keep KH nin0) hs.1) hs.1 hs.2.1 (by decide)
    · rcases hsg with hs | hs | hs
      · exact rm0_01 l s _ hw tables_1 i0 i1 b_EQUAL b_NOT_EQUAL b_LESS b_LESS_OR_EQUAL b_GREATER b_GREATER_OR_EQUAL b_LESS_OR_EQUAL (3 : Int32) s.heap s.heap.size (Nat.le_refl _) S_EQUAL A_EQUAL S_NOT_EQUAL A_NOT_EQUAL S_LESS A_LESS S_LESS_OR_EQUAL A_LESS_OR_EQUAL S_GREATER A_GREATER S_GREATER_OR_EQUAL A_GREATER_OR_EQUAL hlo (by rw [hj]; rfl) hlo (by rw [hj]; rfl) A_LESS_OR_EQUAL (fun h KH Zh => rm1_3f l s _ hw [] b_LESS_OR_EQUAL i1 h s.heap.size Zh (A_LESS_OR_EQUAL.keep KH) (F_LESS_OR_EQUAL.keep KH nin0) (own_nlt hs)) hs (by decide)
      · exact rm0_11 l s _ hw tables_1 i0 i1 b_EQUAL b_NOT_EQUAL b_LESS b_LESS_OR_EQUAL b_GREATER b_GREATER_OR_EQUAL b_LESS_OR_EQUAL (3 : Int32) s.heap s.heap.size (Nat.le_refl _) S_EQUAL A_EQUAL S_NOT_EQUAL A_NOT_EQUAL S_LESS A_LESS S_LESS_OR_EQUAL A_LESS_OR_EQUAL S_GREATER A_GREATER S_GREATER_OR_EQUAL A_GREATER_OR_EQUAL hlo (by rw [hj]; rfl) hlo (by rw [hj]; rfl) A_LESS_OR_EQUAL (fun h KH Zh => rm1_3f l s _ hw [] b_LESS_OR_EQUAL i1 h s.heap.size Zh (A_LESS_OR_EQUAL.keep KH) (F_LESS_OR_EQUAL.keep KH nin0) (by rw [hs.2]; decide)) hs.1 hs.2 (by decide)
      · exact rm0_20 l s _ hw tables_1 i0 i1 b_EQUAL b_NOT_EQUAL b_LESS b_LESS_OR_EQUAL b_GREATER b_GREATER_OR_EQUAL b_LESS_OR_EQUAL (3 : Int32) s.heap s.heap.size (Nat.le_refl _) S_EQUAL A_EQUAL S_NOT_EQUAL A_NOT_EQUAL S_LESS A_LESS S_LESS_OR_EQUAL A_LESS_OR_EQUAL S_GREATER A_GREATER S_GREATER_OR_EQUAL A_GREATER_OR_EQUAL hlo (by rw [hj]; rfl) hlo (by rw [hj]; rfl) A_LESS_OR_EQUAL (fun h KH Zh => rm1_3t l s _ hw [] b_LESS_OR_EQUAL i1 h s.heap.size Zh (A_LESS_OR_EQUAL.keep KH) (F_LESS_OR_EQUAL.keep KH nin0) hs.2.2) hs.1 hs.2.1 (by decide)
    · rcases hsg with hs | hs | hs
      · exact rm0_00 l s _ hw tables_1 i0 i1 b_EQUAL b_NOT_EQUAL b_LESS b_LESS_OR_EQUAL b_GREATER b_GREATER_OR_EQUAL b_GREATER (4 : Int32) s.heap s.heap.size (Nat.le_refl _) S_EQUAL A_EQUAL S_NOT_EQUAL A_NOT_EQUAL S_LESS A_LESS S_LESS_OR_EQUAL A_LESS_OR_EQUAL S_GREATER A_GREATER S_GREATER_OR_EQUAL A_GREATER_OR_EQUAL hlo (by rw [hj]; rfl) hlo (by rw [hj]; rfl) A_GREATER (fun h KH Zh => rm1_4t l s _ hw [] b_GREATER i1 h s.heap.size Zh (A_GREATER.keep KH) (F_GREATER.keep KH nin0) (own_nlt hs)) hs (by decide)
      · exact rm0_10 l s _ hw tables_1 i0 i1 b_EQUAL b_NOT_EQUAL b_LESS b_LESS_OR_EQUAL b_GREATER b_GREATER_OR_EQUAL b_GREATER (4 : Int32) s.heap s.heap.size (Nat.le_refl _) S_EQUAL A_EQUAL S_NOT_EQUAL A_NOT_EQUAL S_LESS A_LESS S_LESS_OR_EQUAL A_LESS_OR_EQUAL S_GREATER A_GREATER S_GREATER_OR_EQUAL A_GREATER_OR_EQUAL hlo (by rw [hj]; rfl) hlo (by rw [hj]; rfl) A_GREATER (fun h KH Zh => rm1_4t l s _ hw [] b_GREATER i1 h s.heap.size Zh (A_GREATER.keep KH) (F_GREATER.keep KH nin0) (by rw [hs.2]; decide)) hs.1 hs.2 (by decide)
      · exact rm0_21 l s _ hw tables_1 i0 i1 b_EQUAL b_NOT_EQUAL b_LESS b_LESS_OR_EQUAL b_GREATER b_GREATER_OR_EQUAL b_GREATER (4 : Int32) s.heap s.heap.size (Nat.le_refl _) S_EQUAL A_EQUAL S_NOT_EQUAL A_NOT_EQUAL S_LESS A_LESS S_LESS_OR_EQUAL A_LESS_OR_EQUAL S_GREATER A_GREATER S_GREATER_OR_EQUAL A_GREATER_OR_EQUAL hlo (by rw [hj]; rfl) hlo (by rw [hj]; rfl) A_GREATER (fun h KH Zh => rm1_4f l s _ hw [] b_GREATER i1 h s.heap.size Zh (A_GREATER.keep KH) (F_GREATER.keep KH nin0) hs.2.2) hs.1 hs.2.1 (by decide)
    · rcases hsg with hs | hs | hs
      · exact rm0_00 l s _ hw tables_1 i0 i1 b_EQUAL b_NOT_EQUAL b_LESS b_LESS_OR_EQUAL b_GREATER b_GREATER_OR_EQUAL b_GREATER_OR_EQUAL (6 : Int32) s.heap s.heap.size (Nat.le_refl _) S_EQUAL A_EQUAL S_NOT_EQUAL A_NOT_EQUAL S_LESS A_LESS S_LESS_OR_EQUAL A_LESS_OR_EQUAL S_GREATER A_GREATER S_GREATER_OR_EQUAL A_GREATER_OR_EQUAL hlo (by rw [hj]; rfl) hlo (by rw [hj]; rfl) A_GREATER_OR_EQUAL (fun h KH Zh => rm1_5t l s _ hw [] b_GREATER_OR_EQUAL i1 h s.heap.size Zh (A_GREATER_OR_EQUAL.keep KH) (F_GREATER_OR_EQUAL.keep KH nin0) hs) hs (by decide)
      · exact rm0_11 l s _ hw tables_1 i0 i1 b_EQUAL b_NOT_EQUAL b_LESS b_LESS_OR_EQUAL b_GREATER b_GREATER_OR_EQUAL b_GREATER_OR_EQUAL (6 : Int32) s.heap s.heap.size (Nat.le_refl _) S_EQUAL A_EQUAL S_NOT_EQUAL A_NOT_EQUAL S_LESS A_LESS S_LESS_OR_EQUAL A_LESS_OR_EQUAL S_GREATER A_GREATER S_GREATER_OR_EQUAL A_GREATER_OR_EQUAL hlo (by rw [hj]; rfl) hlo (by rw [hj]; rfl) A_GREATER_OR_EQUAL (fun h KH Zh => rm1_5f l s _ hw [] b_GREATER_OR_EQUAL i1 h s.heap.size Zh (A_GREATER_OR_EQUAL.keep KH) (F_GREATER_OR_EQUAL.keep KH nin0) hs.1) hs.1 hs.2 (by decide)
      · exact rm0_21 l s _ hw tables_1 i0 i1 b_EQUAL b_NOT_EQUAL b_LESS b_LESS_OR_EQUAL b_GREATER b_GREATER_OR_EQUAL b_GREATER_OR_EQUAL (6 : Int32) s.heap s.heap.size (Nat.le_refl _) S_EQUAL A_EQUAL S_NOT_EQUAL A_NOT_EQUAL S_LESS A_LESS S_LESS_OR_EQUAL A_LESS_OR_EQUAL S_GREATER A_GREATER S_GREATER_OR_EQUAL A_GREATER_OR_EQUAL hlo (by rw [hj]; rfl) hlo (by rw [hj]; rfl) A_GREATER_OR_EQUAL (fun h KH Zh => rm1_5f l s _ hw [] b_GREATER_OR_EQUAL i1 h s.heap.size Zh (A_GREATER_OR_EQUAL.keep KH) (F_GREATER_OR_EQUAL.keep KH nin0) hs.1) hs.1 hs.2.1 (by decide)
  obtain ⟨n, o, h1, h2, h3, _, L, rfl, ⟨rfl, N⟩, hq⟩ := key p e ha hc hk s m _ below hf ((Spec.applies_iff_loose hf).mp happ).1 ⟨rfl, State.Warmed39.refl s, rfl⟩ trivial
  refine ⟨n, _, h1, h2, h3, hpost _ _ _ _ _ _ ⟨Cond.after_iff.mpr rfl, Cond.after_iff.mpr (eq_i res_at (Term.int_eval (1)) rfl), trivial⟩ ⟨hq.1, hq.2.1, (hq.2.2.sift fun y hy => Or.inr (N y hy)).mono (by decide) (by decide)⟩⟩
theorem main_1_1 : Claimed_1_1 := comes_1 fun _ _ _ _ _ _ h hF => ⟨h.1, hF⟩
theorem main_1_2 : Claimed_1_2 := comes_1 fun _ _ _ _ _ _ h hF => ⟨h.2.1, hF⟩
end Jvm.Pilot.@@N@@
namespace Jvm.Pilot.@@N@@
open Jvm Jvm.ClassFile Sem Op Lib Jvm.Free Jvm.Stand Jvm.Pilot.@@N@@.Jvm.D
/-! MADE BY PROGRAM (witnessworld.py) out of the Statement's table words and the real class files: 13 classes; the members and pool entries that the words name. The judged class is class 1, her method 1. -/
namespace start1
open Jvm.ClassFile
def u (s : String) : CpInfo := .utf8 (stringToUtf16 s)
/-- a pool by its gaps: so many unusable entries, then the entry; so many at the end -/
def gap : Nat → List CpInfo → List CpInfo
  | 0, r => r
  | n + 1, r => .unusable :: gap n r
def poolList (es : List (Nat × CpInfo)) (last : Nat) : List CpInfo := es.foldr (fun e r => gap e.1 (e.2 :: r)) (gap last [])
def pool (es : List (Nat × CpInfo)) (last : Nat) : Array CpInfo := ⟨poolList es last⟩
def fileOf (pool : Array CpInfo) (this : Nat) (attrs : Array Attribute := #[]) (ms : Array MethodInfo := #[]) (fl : Nat := 33) (sup : Nat := 0) (ifs : Array Nat := #[]) (fds : Array FieldInfo := #[]) : ClassFile where
  minorVersion := 0
  majorVersion := 65
  constantPool := pool
  accessFlags := fl
  thisClass := this
  superClass := sup
  interfaces := ifs
  fields := fds
  methods := ms
  attributes := attrs
def plain (name : String) (sup : Option ClassId) : Class where
  name := name
  kind := .ordinary
  loader := none
  accessFlags := 33
  super := sup
  interfaces := #[]
  cf := none
  fields := #[]
  methods := #[]
  instanceTypes := #[]
  staticTypes := #[]
  resolved := #[]
  callSites := []
  init := .initialized
  statics := none
  mirror := none

def pool0 : Array CpInfo := pool [(5, u "<init>"), (0, u "()V"), (1, .class_ 10), (1, u "java/lang/Object")] 113

def k0m0 : Method := { name := "<init>", desc := "()V", sig := { parameters := [], returnType := none }, accessFlags := 1, code := none }
/-- java/lang/Object -/
def k0 : Class := { plain "java/lang/Object" none with
  accessFlags := 33
  interfaces := #[]
  cf := some (fileOf pool0 8 #[] #[{ accessFlags := 1, nameIndex := 5, descriptorIndex := 6, attributes := #[] }] 33 0 #[] #[])
  fields := #[]
  methods := #[k0m0]
  instanceTypes := #[]
  staticTypes := #[]
  resolved := Array.replicate 124 none
  statics := none }

def pool1 : Array CpInfo := pool [(2, .class_ 4), (1, u "java/lang/Object"), (0, u "<init>"), (0, u "()V"), (0, .class_ 8), (0, u "com/example/quantorum/quantorum/algebra/Relation"), (0, .fieldref 7 10), (0, .nameAndType 11 12), (0, u "EQUAL"), (0, u "Lcom/example/quantorum/quantorum/algebra/Relation;"), (0, .fieldref 7 14), (0, .nameAndType 15 12), (0, u "NOT_EQUAL"), (0, .fieldref 7 17), (0, .nameAndType 18 12), (0, u "LESS"), (0, .fieldref 7 20), (0, .nameAndType 21 12), (0, u "LESS_OR_EQUAL"), (0, .fieldref 7 23), (0, .nameAndType 24 12), (0, u "GREATER"), (0, .fieldref 7 26), (0, .nameAndType 27 12), (0, u "GREATER_OR_EQUAL"), (0, .integer 2147483647), (0, .methodref 7 30), (0, .nameAndType 31 32), (0, u "holds"), (0, u "(I)Z"), (0, .class_ 34), (0, u "com/example/quantorum/quantorum/algebra/RelationHoldsPinLaw"), (2, u "law"), (0, u "(II)Z")] 7

def k1m0 : Method := { name := "<init>", desc := "()V", sig := { parameters := [], returnType := none }, accessFlags := 1, code := none }
def k1c1 : Code := { maxStack := 4, maxLocals := 8, code := code, exceptionTable := #[], attributes := #[] }
def k1m1 : Method := { name := "law", desc := "(II)Z", sig := { parameters := [.int, .int], returnType := some .boolean }, accessFlags := 9, code := some k1c1 }
/-- com/example/quantorum/quantorum/algebra/RelationHoldsPinLaw -/
def k1 : Class := { plain "com/example/quantorum/quantorum/algebra/RelationHoldsPinLaw" (some 0) with
  accessFlags := 49
  interfaces := #[]
  cf := some (fileOf pool1 33 #[] #[{ accessFlags := 1, nameIndex := 5, descriptorIndex := 6, attributes := #[] }, { accessFlags := 9, nameIndex := 37, descriptorIndex := 38, attributes := #[] }] 49 2 #[] #[])
  fields := #[]
  methods := #[k1m0, k1m1]
  instanceTypes := #[]
  staticTypes := #[]
  resolved := Array.replicate 46 none
  statics := none }

def pool2 : Array CpInfo := pool [(1, .class_ 2), (0, u "java/lang/constant/Constable"), (0, .class_ 4), (0, u "java/lang/Object")] 6

/-- java/lang/constant/Constable -/
def k2 : Class := { plain "java/lang/constant/Constable" (some 0) with
  accessFlags := 1537
  interfaces := #[]
  cf := some (fileOf pool2 1 #[] #[] 1537 3 #[] #[])
  fields := #[]
  methods := #[]
  instanceTypes := #[]
  staticTypes := #[]
  resolved := Array.replicate 11 none
  statics := none }

def pool3 : Array CpInfo := pool [(1, .class_ 2), (0, u "java/lang/Comparable"), (0, .class_ 4), (0, u "java/lang/Object")] 7

/-- java/lang/Comparable -/
def k3 : Class := { plain "java/lang/Comparable" (some 0) with
  accessFlags := 1537
  interfaces := #[]
  cf := some (fileOf pool3 1 #[] #[] 1537 3 #[] #[])
  fields := #[]
  methods := #[]
  instanceTypes := #[]
  staticTypes := #[]
  resolved := Array.replicate 12 none
  statics := none }

def pool4 : Array CpInfo := pool [(1, .class_ 2), (0, u "java/io/Serializable"), (0, .class_ 4), (0, u "java/lang/Object")] 2

/-- java/io/Serializable -/
def k4 : Class := { plain "java/io/Serializable" (some 0) with
  accessFlags := 1537
  interfaces := #[]
  cf := some (fileOf pool4 1 #[] #[] 1537 3 #[] #[])
  fields := #[]
  methods := #[]
  instanceTypes := #[]
  staticTypes := #[]
  resolved := Array.replicate 7 none
  statics := none }

def pool5 : Array CpInfo := pool [(2, .class_ 4), (1, u "java/lang/Enum"), (0, u "name"), (0, u "Ljava/lang/String;"), (0, .fieldref 2 8), (0, .nameAndType 9 10), (0, u "ordinal"), (0, u "I"), (1, .class_ 14), (1, u "java/lang/Object"), (4, u "hash"), (86, .class_ 108), (1, u "java/lang/Enum$EnumDesc"), (2, .class_ 112), (0, u "java/lang/constant/Constable"), (0, .class_ 114), (0, u "java/lang/Comparable"), (0, .class_ 116), (0, u "java/io/Serializable"), (9, u "()I")] 77

def k5c0 : Code := { maxStack := 1, maxLocals := 1, code := jdk_37_method_2_code, exceptionTable := #[], attributes := #[] }
def k5m0 : Method := { name := "ordinal", desc := "()I", sig := { parameters := [], returnType := some .int }, accessFlags := 17, code := some k5c0 }
/-- java/lang/Enum -/
def k5 : Class := { plain "java/lang/Enum" (some 0) with
  accessFlags := 1057
  interfaces := #[2, 3, 4]
  cf := some (fileOf pool5 2 #[.nestMembers #[106]] #[{ accessFlags := 17, nameIndex := 9, descriptorIndex := 126, attributes := #[] }] 1057 12 #[111, 113, 115] #[{ accessFlags := 18, nameIndex := 5, descriptorIndex := 6, attributes := #[] }, { accessFlags := 18, nameIndex := 9, descriptorIndex := 10, attributes := #[] }, { accessFlags := 2, nameIndex := 19, descriptorIndex := 10, attributes := #[] }])
  fields := #[{ name := "name", type := (.object "java/lang/String"), accessFlags := 18, slot := 0, constantValue := 0 }, { name := "ordinal", type := .int, accessFlags := 18, slot := 1, constantValue := 0 }, { name := "hash", type := .int, accessFlags := 2, slot := 2, constantValue := 0 }]
  methods := #[k5m0]
  instanceTypes := #[(.object "java/lang/String"), .int, .int]
  staticTypes := #[]
  resolved := Array.replicate 204 none
  statics := none }

def pool6 : Array CpInfo := pool [(1, .class_ 2), (0, u "com/example/quantorum/quantorum/algebra/Relation"), (2, u "EQUAL"), (0, u "Lcom/example/quantorum/quantorum/algebra/Relation;"), (2, u "NOT_EQUAL"), (2, u "LESS"), (2, u "LESS_OR_EQUAL"), (2, u "GREATER"), (2, u "GREATER_OR_EQUAL"), (2, u "$VALUES"), (0, u "[Lcom/example/quantorum/quantorum/algebra/Relation;"), (6, .class_ 34), (1, u "java/lang/Enum"), (6, .methodref 1 42), (0, .nameAndType 43 44), (0, u "ordinal"), (0, u "()I"), (23, u "holds"), (0, u "(I)Z")] 7

def k6c0 : Code := { maxStack := 4, maxLocals := 2, code := prog_44_method_4_code, exceptionTable := #[], attributes := #[] }
def k6m0 : Method := { name := "holds", desc := "(I)Z", sig := { parameters := [.int], returnType := some .boolean }, accessFlags := 1, code := some k6c0 }
/-- com/example/quantorum/quantorum/algebra/Relation -/
def k6 : Class := { plain "com/example/quantorum/quantorum/algebra/Relation" (some 5) with
  accessFlags := 16433
  interfaces := #[]
  cf := some (fileOf pool6 1 #[] #[{ accessFlags := 1, nameIndex := 68, descriptorIndex := 69, attributes := #[] }] 16433 32 #[] #[{ accessFlags := 16409, nameIndex := 5, descriptorIndex := 6, attributes := #[] }, { accessFlags := 16409, nameIndex := 9, descriptorIndex := 6, attributes := #[] }, { accessFlags := 16409, nameIndex := 12, descriptorIndex := 6, attributes := #[] }, { accessFlags := 16409, nameIndex := 15, descriptorIndex := 6, attributes := #[] }, { accessFlags := 16409, nameIndex := 18, descriptorIndex := 6, attributes := #[] }, { accessFlags := 16409, nameIndex := 21, descriptorIndex := 6, attributes := #[] }, { accessFlags := 4122, nameIndex := 24, descriptorIndex := 25, attributes := #[] }])
  fields := #[{ name := "EQUAL", type := (.object "com/example/quantorum/quantorum/algebra/Relation"), accessFlags := 16409, slot := 0, constantValue := 0 }, { name := "NOT_EQUAL", type := (.object "com/example/quantorum/quantorum/algebra/Relation"), accessFlags := 16409, slot := 1, constantValue := 0 }, { name := "LESS", type := (.object "com/example/quantorum/quantorum/algebra/Relation"), accessFlags := 16409, slot := 2, constantValue := 0 }, { name := "LESS_OR_EQUAL", type := (.object "com/example/quantorum/quantorum/algebra/Relation"), accessFlags := 16409, slot := 3, constantValue := 0 }, { name := "GREATER", type := (.object "com/example/quantorum/quantorum/algebra/Relation"), accessFlags := 16409, slot := 4, constantValue := 0 }, { name := "GREATER_OR_EQUAL", type := (.object "com/example/quantorum/quantorum/algebra/Relation"), accessFlags := 16409, slot := 5, constantValue := 0 }, { name := "$VALUES", type := (.array (.object "com/example/quantorum/quantorum/algebra/Relation")), accessFlags := 4122, slot := 6, constantValue := 0 }]
  methods := #[k6m0]
  instanceTypes := #[(.object "java/lang/String"), .int, .int]
  staticTypes := #[(.object "com/example/quantorum/quantorum/algebra/Relation"), (.object "com/example/quantorum/quantorum/algebra/Relation"), (.object "com/example/quantorum/quantorum/algebra/Relation"), (.object "com/example/quantorum/quantorum/algebra/Relation"), (.object "com/example/quantorum/quantorum/algebra/Relation"), (.object "com/example/quantorum/quantorum/algebra/Relation"), (.array (.object "com/example/quantorum/quantorum/algebra/Relation"))]
  resolved := Array.replicate 77 none
  statics := some 0 }

def pool7 : Array CpInfo := pool [(1, u "java/lang/Cloneable"), (0, .class_ 1), (0, u "java/lang/Object"), (0, .class_ 3)] 3

/-- java/lang/Cloneable -/
def k7 : Class := { plain "java/lang/Cloneable" (some 0) with
  accessFlags := 1537
  interfaces := #[]
  cf := some (fileOf pool7 2 #[] #[] 1537 4 #[] #[])
  fields := #[]
  methods := #[]
  instanceTypes := #[]
  staticTypes := #[]
  resolved := Array.replicate 8 none
  statics := none }

/-- the primitive byte -/
def k8 : Class := { plain "byte" none with kind := .primitive 'B', accessFlags := 0x411 }
/-- [B -/
def k9 : Class := { plain "[B" (some 0) with kind := .array 8 .byte, interfaces := #[7, 4], accessFlags := 1041 }

/-- the primitive int -/
def k10 : Class := { plain "int" none with kind := .primitive 'I', accessFlags := 0x411 }
/-- [I -/
def k11 : Class := { plain "[I" (some 0) with kind := .array 10 .int, interfaces := #[7, 4], accessFlags := 1041 }

/-- [Lcom/example/quantorum/quantorum/algebra/Relation; -/
def k12 : Class := { plain "[Lcom/example/quantorum/quantorum/algebra/Relation;" (some 0) with kind := .array 6 (.object "com/example/quantorum/quantorum/algebra/Relation"), interfaces := #[7, 4], accessFlags := 1041 }

def heap : Heap := #[{ cls := 6, slots := #[.ref 1, .ref 2, .ref 3, .ref 4, .ref 5, .ref 6, .null], vm := .statics 6 },
  { cls := 6, slots := #[.null, .int 0, .int 0], vm := .none },
  { cls := 6, slots := #[.null, .int 1, .int 0], vm := .none },
  { cls := 6, slots := #[.null, .int 2, .int 0], vm := .none },
  { cls := 6, slots := #[.null, .int 3, .int 0], vm := .none },
  { cls := 6, slots := #[.null, .int 4, .int 0], vm := .none },
  { cls := 6, slots := #[.null, .int 5, .int 0], vm := .none }]
def classes : Array Class := #[k0, k1, k2, k3, k4, k5, k6, k7, k8, k9, k10, k11, k12]
def interned : List (Array UInt16 × Addr) := []
def slotsUsed : Nat := 25
def theMethod : MethodId := ⟨1, 1⟩
def args0 : Array Value := #[.int 8, .int 3]
def aboutOver (below : List Frame) : State where
  vm := { classes := classes, interned := interned.toArray }
  heap := heap
  slotsUsed := slotsUsed
  threads := #[{ frames := .invoking theMethod args0 :: below }]
def below0 : List Frame := [.native { method := ⟨0, 0⟩, args := #[] }]
def about1 : State := aboutOver below0
def p0 : Program := .bare "" "" ""
def e0 : Env := launch0.env 0 0 0
theorem w_frames : about1.frames = Frame.invoking theMethod args0 :: below0 := rfl
set_option maxRecDepth 65536 in
theorem w_args : argsFit about1.vm theMethod args0 = true := by decide +kernel
set_option maxRecDepth 65536 in
theorem w_heap : heapFits about1 = true := by decide +kernel
set_option maxRecDepth 65536 in
theorem w_runnable : about1.curStatus? = some .runnable := by decide +kernel
set_option maxRecDepth 65536 in
theorem w_alone : about1.alone = true := by decide +kernel
set_option maxRecDepth 65536 in
theorem w_named : about1.methodNamed? x = some theMethod := by decide +kernel
set_option maxRecDepth 65536 in
theorem w_hears : about1.hears theMethod below0 = true := by decide +kernel
set_option maxRecDepth 65536 in
theorem w_ripe : about1.ripe theMethod args0 below0 = true := by decide +kernel
theorem w_running : about1.status = .running := rfl
set_option maxRecDepth 65536 in
theorem w_room : about1.hasRoom e0.platform room_1 = true :=
  launch0.hasRoom_least _ room_1 (by decide +kernel) (by decide +kernel) (by decide +kernel) (by decide +kernel) (by decide +kernel) (by decide +kernel)
theorem allAtoms_all (ts : List Jvm.Cond) (a : Array Jvm.Value) (st : Jvm.State) : (allAtoms ts).before a st = ts.all (fun c => c.before a st) := by
  induction ts with
  | nil => rfl
  | cons c t ih =>
    show (Jvm.Cond.and c (allAtoms t)).before a st = _
    rw [Jvm.Cond.before_and, ih, List.all_cons]
def words1 : List Jvm.Cond := Jvm.Cond.code x code maxLocals ret :: tables_1
/-- a 'code' word, met by the world's own term for the bytes: nothing is compared byte by byte -/
theorem code_word {y : MethodName} {bytes : ByteArray} {mx : Nat} {rt : Option FieldType} {a : Array Value} {s : State} {m : MethodId} {meth : Method} {c : Code} (h1 : s.methodNamed? y = some m) (h2 : s.vm.method? m = some meth) (h3 : meth.code = some c) (h4 : c.code = bytes)
    (h5 : (c.maxLocals == mx && c.exceptionTable.isEmpty && decide (c.maxStack ≤ mostOperands) && decide (meth.sig.returnType = rt) && !meth.locks && decide (parseMethodDescriptor y.desc = some meth.sig)) = true) : (Jvm.Cond.code y bytes mx rt).before a s = true := by
  simp only [Bool.and_eq_true, beq_iff_eq, Bool.not_eq_true', decide_eq_true_eq] at h5
  obtain ⟨⟨⟨⟨⟨g1, g2⟩, g3⟩, g4⟩, g5⟩, g6⟩ := h5
  simp [Cond.before, Cond.holds, Cond.value, h1, h2, h3, h4, g1, g2, g3, g4, g5, g6]
def isCode : Jvm.Cond → Bool
  | .code _ _ _ _ => true
  | _ => false
theorem all_split {L : List Jvm.Cond} {P : Jvm.Cond → Bool} (h1 : L.all (fun c => isCode c || P c) = true) (h2 : ∀ c ∈ L.filter isCode, P c = true) : L.all P = true := by
  refine List.all_eq_true.mpr fun c hc => ?_
  have h := List.all_eq_true.mp h1 c hc
  rcases Bool.eq_false_or_eq_true (isCode c) with hi | hi
  · exact h2 c (List.mem_filter.mpr ⟨hc, hi⟩)
  · simpa [hi] using h
set_option maxRecDepth 65536 in
theorem w_c0 : (Jvm.Cond.code x code maxLocals ret).before args0 about1 = true := code_word (m := ⟨1, 1⟩) (meth := k1m1) (c := k1c1) (by decide +kernel) rfl rfl rfl (by decide +kernel)
set_option maxRecDepth 65536 in
theorem w_c1 : (Jvm.Cond.code ({ cls := "com/example/quantorum/quantorum/algebra/Relation", name := "holds", desc := "(I)Z" } : Jvm.MethodName) prog_44_method_4_code (2 : Nat) (Option.some Jvm.ClassFile.FieldType.boolean)).before args0 about1 = true := code_word (m := ⟨6, 0⟩) (meth := k6m0) (c := k6c0) (by decide +kernel) rfl rfl rfl (by decide +kernel)
set_option maxRecDepth 65536 in
theorem w_c2 : (Jvm.Cond.code ({ cls := "java/lang/Enum", name := "ordinal", desc := "()I" } : Jvm.MethodName) jdk_37_method_2_code (1 : Nat) (Option.some Jvm.ClassFile.FieldType.int)).before args0 about1 = true := code_word (m := ⟨5, 0⟩) (meth := k5m0) (c := k5c0) (by decide +kernel) rfl rfl rfl (by decide +kernel)
def codes1 : List Jvm.Cond := [Jvm.Cond.code x code maxLocals ret, Jvm.Cond.code ({ cls := "com/example/quantorum/quantorum/algebra/Relation", name := "holds", desc := "(I)Z" } : Jvm.MethodName) prog_44_method_4_code (2 : Nat) (Option.some Jvm.ClassFile.FieldType.boolean), Jvm.Cond.code ({ cls := "java/lang/Enum", name := "ordinal", desc := "()I" } : Jvm.MethodName) jdk_37_method_2_code (1 : Nat) (Option.some Jvm.ClassFile.FieldType.int)]
set_option maxRecDepth 65536 in
theorem codes_eq : words1.filter isCode = codes1 := rfl
theorem w_codes : ∀ c ∈ words1.filter isCode, c.before args0 about1 = true := by
  rw [codes_eq]
  intro c hc
  simp only [codes1, List.mem_cons, List.not_mem_nil, or_false] at hc
  rcases hc with rfl | rfl | rfl
  · exact w_c0
  · exact w_c1
  · exact w_c2
set_option maxRecDepth 65536 in
theorem w_t1 : (words1.take 24).all (fun c => isCode c || c.before args0 about1) = true := by decide +kernel
set_option maxRecDepth 65536 in
theorem w_t2 : (words1.drop 24).all (fun c => isCode c || c.before args0 about1) = true := by decide +kernel
theorem w_tables : (allAtoms (Jvm.Cond.code x code maxLocals ret :: tables_1)).before args0 about1 = true := by
  rw [allAtoms_all]
  show words1.all (fun c => c.before args0 about1) = true
  refine all_split ?_ w_codes
  rw [← List.take_append_drop 24 words1, List.all_append, w_t1, w_t2]
  rfl
set_option maxRecDepth 65536 in
theorem w_case : (Jvm.Cond.and given_1 narrow_1).before args0 about1 = true := by decide +kernel
theorem w_applies : (headSpec (Jvm.Cond.code x code maxLocals ret :: tables_1) room_1).applies x e0.platform about1 = true :=
  (Spec.applies_iff w_frames).mpr ⟨w_running, w_runnable, w_alone, w_named, w_hears, w_ripe, w_room, w_tables⟩
theorem atStart : AtStart classFile x code maxLocals ret World_1 tables_1 room_1 Calls_1 rest_1 Pre_1 launch0 p0 e0 about1 theMethod args0 below0 :=
  ⟨lists_1, trivial, launch0.admits_env _ _ _, launch0.least_env, fairChoices_fair.cas, fairChoices_fair.clock, w_frames, w_args, w_heap, w_applies, trivial, trivial, w_case⟩
end start1
theorem witness_1 : WitnessClaimed_1 := ⟨start1.p0, start1.e0, start1.about1, start1.theMethod, start1.args0, start1.below0, start1.atStart⟩
end Jvm.Pilot.@@N@@
