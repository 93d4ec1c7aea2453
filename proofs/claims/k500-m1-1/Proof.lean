import JvmDerived
import JvmDerived.Pilot.@@N@@Statement
import JvmDerived.Pilot.@@N@@Code
set_option linter.unusedVariables false
set_option linter.unusedSimpArgs false
namespace Jvm.RoadKit
open Sem ClassFile Op Lib Jvm.Stand Jvm.Free Jvm.LawKit
section New
variable {p : Program} {l : Launch} {e : Env} {R : Room} {s : State} {m : MethodId} {args : Array Value} {below : List Frame} {meth : Method} {c : Code} {T : State} {locs : List Loc} {cells slots : Nat}
theorem retI (X : Stand p l e R s m args below meth c T locs cells slots) (hx : p.tables.exec = Jvm.exec) {pc : Nat} {Ls : Array Slot} {z : Int32} {rest : List Value} (hret : meth.sig.returnType = some .int) (hd : decode c.code pc = .ok (.ireturn, 1)) {fs : List Frame}
    (hl : ∀ (f : JFrame) (acts : List Action), f.method = m → f.locked = none → f.entered = [] → (doReturn e (T.setTop f) acts (some (.int z))).1 = T.setFrames fs) : Steps p.tables e below (T.setTop (mkF m pc Ls (.int z :: rest))) (T.setFrames fs) := by
  have hm' : T.vm.method? m = some meth := X.method'
  have hn : narrow .int (.int z) = .int z := rfl
  show Steps p.tables e below (T.setTop { method := m, pc := pc, locals := Ls, stack := _ :: rest, locked := none }) _
  jvm_step X.here [X.here.top, hx, hd, hm', hret, hn]
  first | (intro acts; rw [hl _ acts rfl rfl rfl]) | rw [hl _ _ rfl rfl rfl]
  exact Steps.refl _
end New
end Jvm.RoadKit
namespace Jvm.Pilot.@@N@@
open Jvm Jvm.ClassFile Sem Op Lib Jvm.Free Jvm.Stand Jvm.LawKit Jvm.RoadKit Bundle Jvm.Pilot.@@N@@.Jvm.D
def own_irem (a b : Int32) : Int32 := a - (a / b) * b
def own_lrem (a b : Int64) : Int64 := a - (a / b) * b
theorem d2_0 : decode jdk_30_method_1_code 0 = .ok (.aload_n 0, 1) := by decide +kernel
theorem d2_1 : decode jdk_30_method_1_code 1 = .ok (.invokespecial 1, 3) := by decide +kernel
theorem d2_4 : decode jdk_30_method_1_code 4 = .ok (.return_, 1) := by decide +kernel
theorem pn_2 : plainName "java/lang/Record" = true := by first | (simp [plainName, overriddenIn]; done) | decide +kernel
theorem ef_rm2 (m : MethodId) (a0 : Addr) : entryFrame m #[(.ref a0)] 1 = mkF m 0 #[.val (.ref a0)] [] := by first | (simp [entryFrame, mkF, argsToLocals, Value.category]; done) | rfl
def rm2Q (Z : State) (a0 : Addr) (h0 : Heap) (n0 : Nat) (v : Option Value) (h : Heap) (L : List Loc) : Prop := v = none ∧ Fr n0 L ∧ h = h0
set_option maxRecDepth 65536 in
set_option maxHeartbeats 40000000 in
theorem rm2 (l : Launch) (Z : State) (aw : Array Value) (hw : ∀ d ∈ tables_1, d.before aw Z = true) (ws : List Jvm.Cond) (a0 : Addr) (h0 : Heap) (n0 : Nat) (Z0 : n0 ≤ h0.size) :
    MetFree l (⟨"java/lang/Record", "<init>", "()V"⟩ : MethodName) (head1 (Jvm.Cond.code (⟨"java/lang/Record", "<init>", "()V"⟩ : MethodName) jdk_30_method_1_code 1 none :: ws) ({ frames := 1, cells := 0, slots := 0, locals := 12 } : Room)) (fun a U => a = #[(.ref a0)] ∧ Z.Warmed39 U.vm ∧ U.heap = h0) (fun _ _ _ _ _ => True) (fun _ U o U' => ∃ v L, o = .returned v ∧ rm2Q Z a0 h0 n0 v U'.heap L ∧ FrameEnd U o U' L ({ frames := 1, cells := 0, slots := 0, locals := 12 } : Room).cells ({ frames := 1, cells := 0, slots := 0, locals := 12 } : Room).slots) := by
  refine MetFree.of_bodySF (plainFor_of_name pn_2) hisR ?_
  intro p e s m args below meth c s₁ Bd hml0 hP hK
  obtain ⟨rfl, hZ, hh⟩ := hP
  have hx := Bd.exec
  have hby := Bd.bytes
  have hml : c.maxLocals = 1 := hml0
  have hown : s.vm.findClass "java/lang/Record" = some m.cls := findClass_of_methodNamed Bd.named
  have hnm := (name_of_methodNamed Bd.named Bd.method).1
  have X0 : Stand p l e ({ frames := 1, cells := 0, slots := 0, locals := 12 } : Room) s m #[(.ref a0)] below meth c s₁ [] 0 0 := Stand.of_body Bd
  have e0 : s₁.heap = h0 := by rw [← hh, Bd.state]; rfl
  have N0 := Fr.nil n0
  have pre0 : ∀ t, Steps p.tables e below (s₁.setTop (mkF m 0 #[.val (.ref a0)] [])) t → Steps p.tables e below (s₁.setTop (entryFrame m #[(.ref a0)] 1)) t := fun t k => castTop (ef_rm2 m a0) k
  obtain ⟨T1, X1, e1, st1⟩ := initO X0 hx hZ hown (hw _ (List.mem_of_getElem? (i := 13) rfl)) (hw _ (List.mem_of_getElem? (i := 14) rfl)) (hw _ (List.mem_of_getElem? (i := 15) rfl)) e0 (g := (mkF m 1 #[.val (.ref a0)] [(.ref a0)])) rfl (by rw [hml]; rfl) rfl (hb hby d2_1) (by decide) (W := 0) (by show 2 * 0 + _ ≤ _; exact Nat.le_of_eq rfl) (by decide)
  obtain ⟨fs, hr, hrun, hended, hW, hsame⟩ := X1.leave (v := none) (fun _ => rfl)
  refine ⟨_, _, pre0 _ ?_, hrun, hended, _, _, rfl, ?_, ⟨_, rfl⟩, hW, hsame.mono (by decide) (by decide)⟩
  · show Steps p.tables e below (s₁.setTop (mkF m 0 #[.val (.ref a0)] [])) _
    refine XS.aloadN X0.here hx rfl (hb hby d2_0) rfl rfl ?_
    show Steps p.tables e below (s₁.setTop (mkF m 1 #[.val (.ref a0)] [(.ref a0)])) _
    refine st1 _ ?_
    show Steps p.tables e below (T1.setTop (mkF m 4 #[.val (.ref a0)] [])) _
    exact X1.returnOut hx Bd.returns (hb hby d2_4) hr
  · show rm2Q Z a0 h0 n0 _ T1.heap _
    rw [e1]
    exact ⟨rfl, N0, rfl⟩
theorem d1_0 : decode prog_24_method_1_code 0 = .ok (.aload_n 0, 1) := by decide +kernel
theorem d1_1 : decode prog_24_method_1_code 1 = .ok (.invokespecial 1, 3) := by decide +kernel
theorem d1_4 : decode prog_24_method_1_code 4 = .ok (.aload_n 0, 1) := by decide +kernel
theorem d1_5 : decode prog_24_method_1_code 5 = .ok (.dload_n 1, 1) := by decide +kernel
theorem d1_6 : decode prog_24_method_1_code 6 = .ok (.putfield 7, 3) := by decide +kernel
theorem d1_9 : decode prog_24_method_1_code 9 = .ok (.aload_n 0, 1) := by decide +kernel
theorem d1_10 : decode prog_24_method_1_code 10 = .ok (.dload_n 3, 1) := by decide +kernel
theorem d1_11 : decode prog_24_method_1_code 11 = .ok (.putfield 13, 3) := by decide +kernel
theorem d1_14 : decode prog_24_method_1_code 14 = .ok (.aload_n 0, 1) := by decide +kernel
theorem d1_15 : decode prog_24_method_1_code 15 = .ok (.dload 5, 2) := by decide +kernel
theorem d1_17 : decode prog_24_method_1_code 17 = .ok (.putfield 16, 3) := by decide +kernel
theorem d1_20 : decode prog_24_method_1_code 20 = .ok (.return_, 1) := by decide +kernel
theorem pn_1 : plainName "com/example/stochist/stochist/histogram/WeightedPoints$Point" = true := by first | (simp [plainName, overriddenIn]; done) | decide +kernel
theorem pd_rm1_0 : parseMethodDescriptor "()V" = some ⟨[], none⟩ := by decide +kernel
theorem ef_rm1 (m : MethodId) (a0 : Addr) (d1 : UInt64) (d2 : UInt64) (d3 : UInt64) : entryFrame m #[(.ref a0), (.double d1), (.double d2), (.double d3)] 7 = mkF m 0 #[.val (.ref a0), .val (.double d1), .second, .val (.double d2), .second, .val (.double d3), .second] [] := by first | (simp [entryFrame, mkF, argsToLocals, Value.category]; done) | rfl
def rm1Q (Z : State) (a0 : Addr) (d1 d2 d3 : UInt64) (h0 : Heap) (n0 : Nat) (v : Option Value) (h : Heap) (L : List Loc) : Prop := v = none ∧ Fr n0 L ∧ Keep h0 h [a0] ∧ Fld Z h a0 "com/example/stochist/stochist/histogram/WeightedPoints$Point" "weight" "D" (.double d1) ∧ Fld Z h a0 "com/example/stochist/stochist/histogram/WeightedPoints$Point" "value" "D" (.double d2) ∧ Fld Z h a0 "com/example/stochist/stochist/histogram/WeightedPoints$Point" "error" "D" (.double d3)
set_option maxRecDepth 65536 in
set_option maxHeartbeats 40000000 in
theorem rm1 (l : Launch) (Z : State) (aw : Array Value) (hw : ∀ d ∈ tables_1, d.before aw Z = true) (ws : List Jvm.Cond) (a0 : Addr) (d1 : UInt64) (d2 : UInt64) (d3 : UInt64) (h0 : Heap) (n0 : Nat) (Z0 : n0 ≤ h0.size) (E_a0 : Exa Z h0 a0 "com/example/stochist/stochist/histogram/WeightedPoints$Point") (F_weight : Fld Z h0 a0 "com/example/stochist/stochist/histogram/WeightedPoints$Point" "weight" "D" (.double 0)) (F_value : Fld Z h0 a0 "com/example/stochist/stochist/histogram/WeightedPoints$Point" "value" "D" (.double 0)) (F_error : Fld Z h0 a0 "com/example/stochist/stochist/histogram/WeightedPoints$Point" "error" "D" (.double 0)) (g_a0 : n0 ≤ a0) :
    MetFree l (⟨"com/example/stochist/stochist/histogram/WeightedPoints$Point", "<init>", "(DDD)V"⟩ : MethodName) (head1 (Jvm.Cond.code (⟨"com/example/stochist/stochist/histogram/WeightedPoints$Point", "<init>", "(DDD)V"⟩ : MethodName) prog_24_method_1_code 7 none :: ws) ({ frames := 2, cells := 0, slots := 0, locals := 24 } : Room)) (fun a U => a = #[(.ref a0), (.double d1), (.double d2), (.double d3)] ∧ Z.Warmed39 U.vm ∧ U.heap = h0) (fun _ _ _ _ _ => True) (fun _ U o U' => ∃ v L, o = .returned v ∧ rm1Q Z a0 d1 d2 d3 h0 n0 v U'.heap L ∧ FrameEnd U o U' L ({ frames := 2, cells := 0, slots := 0, locals := 24 } : Room).cells ({ frames := 2, cells := 0, slots := 0, locals := 24 } : Room).slots) := by
  refine MetFree.of_bodySF (plainFor_of_name pn_1) hisR ?_
  intro p e s m args below meth c s₁ Bd hml0 hP hK
  obtain ⟨rfl, hZ, hh⟩ := hP
  have hx := Bd.exec
  have hby := Bd.bytes
  have hml : c.maxLocals = 7 := hml0
  have hown : s.vm.findClass "com/example/stochist/stochist/histogram/WeightedPoints$Point" = some m.cls := findClass_of_methodNamed Bd.named
  have hnm := (name_of_methodNamed Bd.named Bd.method).1
  have X0 : Stand p l e ({ frames := 2, cells := 0, slots := 0, locals := 24 } : Room) s m #[(.ref a0), (.double d1), (.double d2), (.double d3)] below meth c s₁ [] 0 0 := Stand.of_body Bd
  have e0 : s₁.heap = h0 := by rw [← hh, Bd.state]; rfl
  have N0 := Fr.nil n0
  have pre0 : ∀ t, Steps p.tables e below (s₁.setTop (mkF m 0 #[.val (.ref a0), .val (.double d1), .second, .val (.double d2), .second, .val (.double d3), .second] [])) t → Steps p.tables e below (s₁.setTop (entryFrame m #[(.ref a0), (.double d1), (.double d2), (.double d3)] 7)) t := fun t k => castTop (ef_rm1 m a0 d1 d2 d3) k
  obtain ⟨_, _, ⟨T1, L1, k1, n1⟩, -, X1, ⟨Lc1, hQ1, l1, y1, z1⟩, st1⟩ := X0.specialBack hx (y := (⟨"java/lang/Record", "<init>", "()V"⟩ : MethodName)) rfl hown (mvT hZ (hw _ (List.mem_of_getElem? (i := 8) rfl))) (mvT hZ (hw _ (List.mem_of_getElem? (i := 9) rfl))) (mvT hZ (hw _ (List.mem_of_getElem? (i := 12) rfl))) (by decide) (backOf (W := 0) (rm2 l Z aw hw [] a0 h0 n0 Z0) hZ (hw _ (List.mem_of_getElem? (i := 12) rfl)) (hw _ (List.mem_of_getElem? (i := 11) rfl)) (by decide) (by decide)) (g := (mkF m 1 #[.val (.ref a0), .val (.double d1), .second, .val (.double d2), .second, .val (.double d3), .second] [(.ref a0)])) rfl (by rw [hml]; rfl) (Steps.refl _) (a := a0) (argsL := []) (rest := []) (lenOf pd_rm1_0 rfl) rfl (by show 2 * 0 + _ ≤ _; exact Nat.le_of_eq rfl) (hb hby d1_1) (fun _ _ => ⟨rfl, e0, (by decide : 0 + 0 ≤ _), (by decide : 0 + 0 ≤ _)⟩)
  dsimp only [Pt.U, Pt.locs, Pt.cells, Pt.slots] at X1 l1 y1 z1 st1 hQ1
  subst l1 y1 z1
  obtain ⟨rfl, N1q, e1q⟩ := hQ1
  have N1 := Fr.app N0 N1q
  obtain ⟨T2, h2, X2, e2, W2, st2⟩ := putF X1 hx hZ hown (host := "") (Or.inl (hw _ (List.mem_of_getElem? (i := 16) rfl))) Via.refl e1q F_weight E_a0 (Or.inr ⟨(hw _ (List.mem_of_getElem? (i := 17) rfl)), rfl, hnm⟩) (hw _ (List.mem_of_getElem? (i := 3) rfl)) (ty := .double) (by decide) rfl rfl (g := (mkF m 6 #[.val (.ref a0), .val (.double d1), .second, .val (.double d2), .second, .val (.double d3), .second] [(.double d1), (.ref a0)])) rfl rfl (hb hby d1_6)
  have Fw2 := Fld.same W2 F_weight
  have N2 := Fr.snoc X2 N1 g_a0
  have Ff_3 : Fld Z h2 a0 "com/example/stochist/stochist/histogram/WeightedPoints$Point" "value" "D" (.double 0) := (F_value.other W2 (Or.inr (slot_ne (Or.inr (hw _ (List.mem_of_getElem? (i := 19) rfl))) (Or.inr (hw _ (List.mem_of_getElem? (i := 17) rfl))) (by decide) (t := .double) (t' := .double) (by decide) (by decide))))
  have Ee_4 : Exa Z h2 a0 "com/example/stochist/stochist/histogram/WeightedPoints$Point" := (E_a0.wr W2)
  obtain ⟨T5, h5, X5, e5, W5, st5⟩ := putF X2 hx hZ hown (host := "") (Or.inl (hw _ (List.mem_of_getElem? (i := 18) rfl))) Via.refl e2 Ff_3 Ee_4 (Or.inr ⟨(hw _ (List.mem_of_getElem? (i := 19) rfl)), rfl, hnm⟩) (hw _ (List.mem_of_getElem? (i := 3) rfl)) (ty := .double) (by decide) rfl rfl (g := (mkF m 11 #[.val (.ref a0), .val (.double d1), .second, .val (.double d2), .second, .val (.double d3), .second] [(.double d2), (.ref a0)])) rfl rfl (hb hby d1_11)
  have Fw5 := Fld.same W5 Ff_3
  have N5 := Fr.snoc X5 N2 g_a0
  have Ff_6 : Fld Z h5 a0 "com/example/stochist/stochist/histogram/WeightedPoints$Point" "error" "D" (.double 0) := ((F_error.other W2 (Or.inr (slot_ne (Or.inr (hw _ (List.mem_of_getElem? (i := 21) rfl))) (Or.inr (hw _ (List.mem_of_getElem? (i := 17) rfl))) (by decide) (t := .double) (t' := .double) (by decide) (by decide)))).other W5 (Or.inr (slot_ne (Or.inr (hw _ (List.mem_of_getElem? (i := 21) rfl))) (Or.inr (hw _ (List.mem_of_getElem? (i := 19) rfl))) (by decide) (t := .double) (t' := .double) (by decide) (by decide))))
  have Ee_7 : Exa Z h5 a0 "com/example/stochist/stochist/histogram/WeightedPoints$Point" := (Ee_4.wr W5)
  obtain ⟨T8, h8, X8, e8, W8, st8⟩ := putF X5 hx hZ hown (host := "") (Or.inl (hw _ (List.mem_of_getElem? (i := 20) rfl))) Via.refl e5 Ff_6 Ee_7 (Or.inr ⟨(hw _ (List.mem_of_getElem? (i := 21) rfl)), rfl, hnm⟩) (hw _ (List.mem_of_getElem? (i := 3) rfl)) (ty := .double) (by decide) rfl rfl (g := (mkF m 17 #[.val (.ref a0), .val (.double d1), .second, .val (.double d2), .second, .val (.double d3), .second] [(.double d3), (.ref a0)])) rfl rfl (hb hby d1_17)
  have Fw8 := Fld.same W8 Ff_6
  have N8 := Fr.snoc X8 N5 g_a0
  have Kk_9 : Keep h0 h8 [a0] := ((((Keep.refl h0 [a0]).wr W2 (Or.inl (List.mem_of_getElem? (i := 0) rfl))).wr W5 (Or.inl (List.mem_of_getElem? (i := 0) rfl))).wr W8 (Or.inl (List.mem_of_getElem? (i := 0) rfl)))
  have Ff_10 : Fld Z h8 a0 "com/example/stochist/stochist/histogram/WeightedPoints$Point" "weight" "D" (.double d1) := ((Fw2.other W5 (Or.inr (slot_ne (Or.inr (hw _ (List.mem_of_getElem? (i := 17) rfl))) (Or.inr (hw _ (List.mem_of_getElem? (i := 19) rfl))) (by decide) (t := .double) (t' := .double) (by decide) (by decide)))).other W8 (Or.inr (slot_ne (Or.inr (hw _ (List.mem_of_getElem? (i := 17) rfl))) (Or.inr (hw _ (List.mem_of_getElem? (i := 21) rfl))) (by decide) (t := .double) (t' := .double) (by decide) (by decide))))
  have Ff_11 : Fld Z h8 a0 "com/example/stochist/stochist/histogram/WeightedPoints$Point" "value" "D" (.double d2) := (Fw5.other W8 (Or.inr (slot_ne (Or.inr (hw _ (List.mem_of_getElem? (i := 19) rfl))) (Or.inr (hw _ (List.mem_of_getElem? (i := 21) rfl))) (by decide) (t := .double) (t' := .double) (by decide) (by decide))))
  obtain ⟨fs, hr, hrun, hended, hW, hsame⟩ := X8.leave (v := none) (fun _ => rfl)
  refine ⟨_, _, pre0 _ ?_, hrun, hended, _, _, rfl, ?_, ⟨_, rfl⟩, hW, hsame.mono (by decide) (by decide)⟩
  · show Steps p.tables e below (s₁.setTop (mkF m 0 #[.val (.ref a0), .val (.double d1), .second, .val (.double d2), .second, .val (.double d3), .second] [])) _
    refine XS.aloadN X0.here hx rfl (hb hby d1_0) rfl rfl ?_
    show Steps p.tables e below (s₁.setTop (mkF m 1 #[.val (.ref a0), .val (.double d1), .second, .val (.double d2), .second, .val (.double d3), .second] [(.ref a0)])) _
    refine st1.trans ?_
    show Steps p.tables e below (T1.setTop (mkF m 4 #[.val (.ref a0), .val (.double d1), .second, .val (.double d2), .second, .val (.double d3), .second] [])) _
    refine XS.aloadN X1.here hx rfl (hb hby d1_4) rfl rfl ?_
    show Steps p.tables e below (T1.setTop (mkF m 5 #[.val (.ref a0), .val (.double d1), .second, .val (.double d2), .second, .val (.double d3), .second] [(.ref a0)])) _
    refine XS.dloadN X1.here hx rfl (hb hby d1_5) rfl ?_
    show Steps p.tables e below (T1.setTop (mkF m 6 #[.val (.ref a0), .val (.double d1), .second, .val (.double d2), .second, .val (.double d3), .second] [(.double d1), (.ref a0)])) _
    refine st2 _ ?_
    show Steps p.tables e below (T2.setTop (mkF m 9 #[.val (.ref a0), .val (.double d1), .second, .val (.double d2), .second, .val (.double d3), .second] [])) _
    refine XS.aloadN X2.here hx rfl (hb hby d1_9) rfl rfl ?_
    show Steps p.tables e below (T2.setTop (mkF m 10 #[.val (.ref a0), .val (.double d1), .second, .val (.double d2), .second, .val (.double d3), .second] [(.ref a0)])) _
    refine XS.dloadN X2.here hx rfl (hb hby d1_10) rfl ?_
    show Steps p.tables e below (T2.setTop (mkF m 11 #[.val (.ref a0), .val (.double d1), .second, .val (.double d2), .second, .val (.double d3), .second] [(.double d2), (.ref a0)])) _
    refine st5 _ ?_
    show Steps p.tables e below (T5.setTop (mkF m 14 #[.val (.ref a0), .val (.double d1), .second, .val (.double d2), .second, .val (.double d3), .second] [])) _
    refine XS.aloadN X5.here hx rfl (hb hby d1_14) rfl rfl ?_
    show Steps p.tables e below (T5.setTop (mkF m 15 #[.val (.ref a0), .val (.double d1), .second, .val (.double d2), .second, .val (.double d3), .second] [(.ref a0)])) _
    refine XS.dload X5.here hx rfl (hb hby d1_15) rfl ?_
    show Steps p.tables e below (T5.setTop (mkF m 17 #[.val (.ref a0), .val (.double d1), .second, .val (.double d2), .second, .val (.double d3), .second] [(.double d3), (.ref a0)])) _
    refine st8 _ ?_
    show Steps p.tables e below (T8.setTop (mkF m 20 #[.val (.ref a0), .val (.double d1), .second, .val (.double d2), .second, .val (.double d3), .second] [])) _
    exact X8.returnOut hx Bd.returns (hb hby d1_20) hr
  · show rm1Q Z a0 d1 d2 d3 h0 n0 _ T8.heap _
    rw [e8]
    exact ⟨rfl, N8, Kk_9, Ff_10, Ff_11, Fw8⟩
theorem d4_0 : decode prog_23_method_1_code 0 = .ok (.aload_n 0, 1) := by decide +kernel
theorem d4_1 : decode prog_23_method_1_code 1 = .ok (.invokespecial 3, 3) := by decide +kernel
theorem d4_4 : decode prog_23_method_1_code 4 = .ok (.aload_n 0, 1) := by decide +kernel
theorem d4_5 : decode prog_23_method_1_code 5 = .ok (.iload_n 1, 1) := by decide +kernel
theorem d4_6 : decode prog_23_method_1_code 6 = .ok (.iconst 1, 1) := by decide +kernel
theorem d4_7 : decode prog_23_method_1_code 7 = .ok (.iadd, 1) := by decide +kernel
theorem d4_8 : decode prog_23_method_1_code 8 = .ok (.newarray .double, 2) := by decide +kernel
theorem d4_10 : decode prog_23_method_1_code 10 = .ok (.putfield 9, 3) := by decide +kernel
theorem d4_13 : decode prog_23_method_1_code 13 = .ok (.aload_n 0, 1) := by decide +kernel
theorem d4_14 : decode prog_23_method_1_code 14 = .ok (.iload_n 1, 1) := by decide +kernel
theorem d4_15 : decode prog_23_method_1_code 15 = .ok (.iconst 1, 1) := by decide +kernel
theorem d4_16 : decode prog_23_method_1_code 16 = .ok (.iadd, 1) := by decide +kernel
theorem d4_17 : decode prog_23_method_1_code 17 = .ok (.newarray .double, 2) := by decide +kernel
theorem d4_19 : decode prog_23_method_1_code 19 = .ok (.putfield 15, 3) := by decide +kernel
theorem d4_22 : decode prog_23_method_1_code 22 = .ok (.aload_n 0, 1) := by decide +kernel
theorem d4_23 : decode prog_23_method_1_code 23 = .ok (.iload_n 1, 1) := by decide +kernel
theorem d4_24 : decode prog_23_method_1_code 24 = .ok (.iconst 1, 1) := by decide +kernel
theorem d4_25 : decode prog_23_method_1_code 25 = .ok (.iadd, 1) := by decide +kernel
theorem d4_26 : decode prog_23_method_1_code 26 = .ok (.newarray .double, 2) := by decide +kernel
theorem d4_28 : decode prog_23_method_1_code 28 = .ok (.putfield 18, 3) := by decide +kernel
theorem d4_31 : decode prog_23_method_1_code 31 = .ok (.return_, 1) := by decide +kernel
theorem pn_4 : plainName "com/example/stochist/stochist/histogram/WeightedPoints" = true := by first | (simp [plainName, overriddenIn]; done) | decide +kernel
theorem ef_rm4 (m : MethodId) (a0 : Addr) : entryFrame m #[(.ref a0), (.int (2 : Int32))] 2 = mkF m 0 #[.val (.ref a0), .val (.int (2 : Int32))] [] := by first | (simp [entryFrame, mkF, argsToLocals, Value.category]; done) | rfl
def rm4Q (Z : State) (a0 : Addr) (h0 : Heap) (n0 : Nat) (v : Option Value) (h : Heap) (L : List Loc) : Prop := v = none ∧ Fr n0 L ∧ Keep h0 h [a0] ∧ Fld Z h a0 "com/example/stochist/stochist/histogram/WeightedPoints" "size" "I" (.int (0 : Int32)) ∧ ∃ (b1 b2 b3 : Addr) (k1 k2 k3 : ClassId), h0.size ≤ b1 ∧ h0.size ≤ b2 ∧ h0.size ≤ b3 ∧ b1 ≠ b2 ∧ b1 ≠ b3 ∧ b2 ≠ b3 ∧ Fld Z h a0 "com/example/stochist/stochist/histogram/WeightedPoints" "weights" "[D" (.ref b1) ∧ Fld Z h a0 "com/example/stochist/stochist/histogram/WeightedPoints" "values" "[D" (.ref b2) ∧ Fld Z h a0 "com/example/stochist/stochist/histogram/WeightedPoints" "errors" "[D" (.ref b3) ∧ Arv Z h b1 k1 .double (3 : Int32) [(.double (FP.l2d 0)), (.double (FP.l2d 0)), (.double (FP.l2d 0))] (.double (FP.l2d 0)) ∧ Arv Z h b2 k2 .double (3 : Int32) [(.double (FP.l2d 0)), (.double (FP.l2d 0)), (.double (FP.l2d 0))] (.double (FP.l2d 0)) ∧ Arv Z h b3 k3 .double (3 : Int32) [(.double (FP.l2d 0)), (.double (FP.l2d 0)), (.double (FP.l2d 0))] (.double (FP.l2d 0))
set_option maxRecDepth 65536 in
set_option maxHeartbeats 40000000 in
theorem rm4 (l : Launch) (Z : State) (aw : Array Value) (hw : ∀ d ∈ tables_1, d.before aw Z = true) (ws : List Jvm.Cond) (a0 : Addr) (h0 : Heap) (n0 : Nat) (Z0 : n0 ≤ h0.size) (E_a0 : Exa Z h0 a0 "com/example/stochist/stochist/histogram/WeightedPoints") (F_size : Fld Z h0 a0 "com/example/stochist/stochist/histogram/WeightedPoints" "size" "I" (.int (0 : Int32))) (F_weights : Fld Z h0 a0 "com/example/stochist/stochist/histogram/WeightedPoints" "weights" "[D" .null) (F_values : Fld Z h0 a0 "com/example/stochist/stochist/histogram/WeightedPoints" "values" "[D" .null) (F_errors : Fld Z h0 a0 "com/example/stochist/stochist/histogram/WeightedPoints" "errors" "[D" .null) (g_a0 : n0 ≤ a0) :
    MetFree l (⟨"com/example/stochist/stochist/histogram/WeightedPoints", "<init>", "(I)V"⟩ : MethodName) (head1 (Jvm.Cond.code (⟨"com/example/stochist/stochist/histogram/WeightedPoints", "<init>", "(I)V"⟩ : MethodName) prog_23_method_1_code 2 none :: ws) ({ frames := 1, cells := 3, slots := 9, locals := 12 } : Room)) (fun a U => a = #[(.ref a0), (.int (2 : Int32))] ∧ Z.Warmed39 U.vm ∧ U.heap = h0) (fun _ _ _ _ _ => True) (fun _ U o U' => ∃ v L, o = .returned v ∧ rm4Q Z a0 h0 n0 v U'.heap L ∧ FrameEnd U o U' L ({ frames := 1, cells := 3, slots := 9, locals := 12 } : Room).cells ({ frames := 1, cells := 3, slots := 9, locals := 12 } : Room).slots) := by
  refine MetFree.of_bodySF (plainFor_of_name pn_4) hisR ?_
  intro p e s m args below meth c s₁ Bd hml0 hP hK
  obtain ⟨rfl, hZ, hh⟩ := hP
  have hx := Bd.exec
  have hby := Bd.bytes
  have hml : c.maxLocals = 2 := hml0
  have hown : s.vm.findClass "com/example/stochist/stochist/histogram/WeightedPoints" = some m.cls := findClass_of_methodNamed Bd.named
  have hnm := (name_of_methodNamed Bd.named Bd.method).1
  have X0 : Stand p l e ({ frames := 1, cells := 3, slots := 9, locals := 12 } : Room) s m #[(.ref a0), (.int (2 : Int32))] below meth c s₁ [] 0 0 := Stand.of_body Bd
  have e0 : s₁.heap = h0 := by rw [← hh, Bd.state]; rfl
  have N0 := Fr.nil n0
  have pre0 : ∀ t, Steps p.tables e below (s₁.setTop (mkF m 0 #[.val (.ref a0), .val (.int (2 : Int32))] [])) t → Steps p.tables e below (s₁.setTop (entryFrame m #[(.ref a0), (.int (2 : Int32))] 2)) t := fun t k => castTop (ef_rm4 m a0) k
  obtain ⟨T1, X1, e1, st1⟩ := initO X0 hx hZ hown (hw _ (List.mem_of_getElem? (i := 28) rfl)) (hw _ (List.mem_of_getElem? (i := 14) rfl)) (hw _ (List.mem_of_getElem? (i := 15) rfl)) e0 (g := (mkF m 1 #[.val (.ref a0), .val (.int (2 : Int32))] [(.ref a0)])) rfl (by rw [hml]; rfl) rfl (hb hby d4_1) (by decide) (W := 0) (by show 2 * 0 + _ ≤ _; exact Nat.le_of_eq rfl) (by decide)
  obtain ⟨T2, h2, k2, X2, e2, E2, A2, st2⟩ := newP X1 hx hZ (hw _ (List.mem_of_getElem? (i := 29) rfl)) e1 (g := (mkF m 8 #[.val (.ref a0), .val (.int (2 : Int32))] [(.int (3 : Int32)), (.ref a0)])) rfl (hb hby d4_8) rfl (by decide) (cap := 3) (by decide) (by decide) (by decide) (by decide)
  obtain ⟨b2, g2⟩ : ∃ z, z = h0.size := ⟨_, rfl⟩
  rw [← g2] at A2 st2
  have g_b2 : n0 ≤ b2 := Nat.le_trans Z0 (Nat.le_of_eq g2.symm)
  have sz_b2 : h0.size ≤ b2 := Nat.le_trans (Keep.refl h0 [a0]).1 (Nat.le_of_eq g2.symm)
  have ne_a0_b2 : a0 ≠ b2 := Nat.ne_of_lt (Nat.lt_of_lt_of_le E_a0.lt (Nat.le_of_eq g2.symm))
  have V_b2 : Arv Z h2 b2 k2 .double (3 : Int32) [(.double (FP.l2d 0)), (.double (FP.l2d 0)), (.double (FP.l2d 0))] (.double (FP.l2d 0)) := (Arv.newD A2 (by decide)).pad (pad_rep [] (.double (FP.l2d 0)) 3)
  have Ff_3 : Fld Z h2 a0 "com/example/stochist/stochist/histogram/WeightedPoints" "weights" "[D" .null := (F_weights.ext E2)
  have Ee_4 : Exa Z h2 a0 "com/example/stochist/stochist/histogram/WeightedPoints" := (E_a0.ext E2)
  obtain ⟨T5, h5, X5, e5, W5, st5⟩ := putF X2 hx hZ hown (host := "") (Or.inl (hw _ (List.mem_of_getElem? (i := 30) rfl))) Via.refl e2 Ff_3 Ee_4 (Or.inr ⟨(hw _ (List.mem_of_getElem? (i := 31) rfl)), rfl, hnm⟩) (hw _ (List.mem_of_getElem? (i := 23) rfl)) (ty := (.array .double)) (by decide) rfl rfl (g := (mkF m 10 #[.val (.ref a0), .val (.int (2 : Int32))] [(.ref b2), (.ref a0)])) rfl rfl (hb hby d4_10)
  have Fw5 := Fld.same W5 Ff_3
  have N5 := Fr.snoc X5 N0 g_a0
  have Kk_6 : Keep h0 h5 [a0] := (((Keep.refl h0 [a0]).ext E2).wr W5 (Or.inl (List.mem_of_getElem? (i := 0) rfl)))
  have Zz_7 : n0 ≤ h5.size := (Nat.le_trans (Nat.le_trans Z0 E2.1) (Keep.of_wr W5).1)
  have Ee_8 : Exa Z h5 a0 "com/example/stochist/stochist/histogram/WeightedPoints" := (Ee_4.wr W5)
  have Va_9 : Arv Z h5 b2 k2 .double (3 : Int32) [(.double (FP.l2d 0)), (.double (FP.l2d 0)), (.double (FP.l2d 0))] (.double (FP.l2d 0)) := (V_b2.other W5 (Ne.symm ne_a0_b2))
  obtain ⟨T10, h10, k10, X10, e10, E10, A10, st10⟩ := newP X5 hx hZ (hw _ (List.mem_of_getElem? (i := 29) rfl)) e5 (g := (mkF m 17 #[.val (.ref a0), .val (.int (2 : Int32))] [(.int (3 : Int32)), (.ref a0)])) rfl (hb hby d4_17) rfl (by decide) (cap := 3) (by decide) (by decide) (by decide) (by decide)
  obtain ⟨b10, g10⟩ : ∃ z, z = h5.size := ⟨_, rfl⟩
  rw [← g10] at A10 st10
  have g_b10 : n0 ≤ b10 := Nat.le_trans Zz_7 (Nat.le_of_eq g10.symm)
  have sz_b10 : h0.size ≤ b10 := Nat.le_trans Kk_6.1 (Nat.le_of_eq g10.symm)
  have ne_a0_b10 : a0 ≠ b10 := Nat.ne_of_lt (Nat.lt_of_lt_of_le Ee_8.lt (Nat.le_of_eq g10.symm))
  have ne_b2_b10 : b2 ≠ b10 := Nat.ne_of_lt (Nat.lt_of_lt_of_le Va_9.lt (Nat.le_of_eq g10.symm))
  have V_b10 : Arv Z h10 b10 k10 .double (3 : Int32) [(.double (FP.l2d 0)), (.double (FP.l2d 0)), (.double (FP.l2d 0))] (.double (FP.l2d 0)) := (Arv.newD A10 (by decide)).pad (pad_rep [] (.double (FP.l2d 0)) 3)
  have Ff_11 : Fld Z h10 a0 "com/example/stochist/stochist/histogram/WeightedPoints" "values" "[D" .null := (((F_values.ext E2).other W5 (Or.inr (slot_ne (Or.inr (hw _ (List.mem_of_getElem? (i := 33) rfl))) (Or.inr (hw _ (List.mem_of_getElem? (i := 31) rfl))) (by decide) (t := (.array .double)) (t' := (.array .double)) (by decide) (by decide)))).ext E10)
  have Ee_12 : Exa Z h10 a0 "com/example/stochist/stochist/histogram/WeightedPoints" := (Ee_8.ext E10)
  obtain ⟨T13, h13, X13, e13, W13, st13⟩ := putF X10 hx hZ hown (host := "") (Or.inl (hw _ (List.mem_of_getElem? (i := 32) rfl))) Via.refl e10 Ff_11 Ee_12 (Or.inr ⟨(hw _ (List.mem_of_getElem? (i := 33) rfl)), rfl, hnm⟩) (hw _ (List.mem_of_getElem? (i := 23) rfl)) (ty := (.array .double)) (by decide) rfl rfl (g := (mkF m 19 #[.val (.ref a0), .val (.int (2 : Int32))] [(.ref b10), (.ref a0)])) rfl rfl (hb hby d4_19)
  have Fw13 := Fld.same W13 Ff_11
  have N13 := Fr.snoc X13 N5 g_a0
  have Kk_14 : Keep h0 h13 [a0] := ((Kk_6.ext E10).wr W13 (Or.inl (List.mem_of_getElem? (i := 0) rfl)))
  have Zz_15 : n0 ≤ h13.size := (Nat.le_trans (Nat.le_trans Zz_7 E10.1) (Keep.of_wr W13).1)
  have Ee_16 : Exa Z h13 a0 "com/example/stochist/stochist/histogram/WeightedPoints" := (Ee_12.wr W13)
  have Va_17 : Arv Z h13 b10 k10 .double (3 : Int32) [(.double (FP.l2d 0)), (.double (FP.l2d 0)), (.double (FP.l2d 0))] (.double (FP.l2d 0)) := (V_b10.other W13 (Ne.symm ne_a0_b10))
  have Va_18 : Arv Z h13 b2 k2 .double (3 : Int32) [(.double (FP.l2d 0)), (.double (FP.l2d 0)), (.double (FP.l2d 0))] (.double (FP.l2d 0)) := ((Va_9.ext E10).other W13 (Ne.symm ne_a0_b2))
  obtain ⟨T19, h19, k19, X19, e19, E19, A19, st19⟩ := newP X13 hx hZ (hw _ (List.mem_of_getElem? (i := 29) rfl)) e13 (g := (mkF m 26 #[.val (.ref a0), .val (.int (2 : Int32))] [(.int (3 : Int32)), (.ref a0)])) rfl (hb hby d4_26) rfl (by decide) (cap := 3) (by decide) (by decide) (by decide) (by decide)
  obtain ⟨b19, g19⟩ : ∃ z, z = h13.size := ⟨_, rfl⟩
  rw [← g19] at A19 st19
  have g_b19 : n0 ≤ b19 := Nat.le_trans Zz_15 (Nat.le_of_eq g19.symm)
  have sz_b19 : h0.size ≤ b19 := Nat.le_trans Kk_14.1 (Nat.le_of_eq g19.symm)
  have ne_a0_b19 : a0 ≠ b19 := Nat.ne_of_lt (Nat.lt_of_lt_of_le Ee_16.lt (Nat.le_of_eq g19.symm))
  have ne_b10_b19 : b10 ≠ b19 := Nat.ne_of_lt (Nat.lt_of_lt_of_le Va_17.lt (Nat.le_of_eq g19.symm))
  have ne_b2_b19 : b2 ≠ b19 := Nat.ne_of_lt (Nat.lt_of_lt_of_le Va_18.lt (Nat.le_of_eq g19.symm))
  have V_b19 : Arv Z h19 b19 k19 .double (3 : Int32) [(.double (FP.l2d 0)), (.double (FP.l2d 0)), (.double (FP.l2d 0))] (.double (FP.l2d 0)) := (Arv.newD A19 (by decide)).pad (pad_rep [] (.double (FP.l2d 0)) 3)
  have Ff_20 : Fld Z h19 a0 "com/example/stochist/stochist/histogram/WeightedPoints" "errors" "[D" .null := (((((F_errors.ext E2).other W5 (Or.inr (slot_ne (Or.inr (hw _ (List.mem_of_getElem? (i := 35) rfl))) (Or.inr (hw _ (List.mem_of_getElem? (i := 31) rfl))) (by decide) (t := (.array .double)) (t' := (.array .double)) (by decide) (by decide)))).ext E10).other W13 (Or.inr (slot_ne (Or.inr (hw _ (List.mem_of_getElem? (i := 35) rfl))) (Or.inr (hw _ (List.mem_of_getElem? (i := 33) rfl))) (by decide) (t := (.array .double)) (t' := (.array .double)) (by decide) (by decide)))).ext E19)
  have Ee_21 : Exa Z h19 a0 "com/example/stochist/stochist/histogram/WeightedPoints" := (Ee_16.ext E19)
  obtain ⟨T22, h22, X22, e22, W22, st22⟩ := putF X19 hx hZ hown (host := "") (Or.inl (hw _ (List.mem_of_getElem? (i := 34) rfl))) Via.refl e19 Ff_20 Ee_21 (Or.inr ⟨(hw _ (List.mem_of_getElem? (i := 35) rfl)), rfl, hnm⟩) (hw _ (List.mem_of_getElem? (i := 23) rfl)) (ty := (.array .double)) (by decide) rfl rfl (g := (mkF m 28 #[.val (.ref a0), .val (.int (2 : Int32))] [(.ref b19), (.ref a0)])) rfl rfl (hb hby d4_28)
  have Fw22 := Fld.same W22 Ff_20
  have N22 := Fr.snoc X22 N13 g_a0
  have Kk_23 : Keep h0 h22 [a0] := ((Kk_14.ext E19).wr W22 (Or.inl (List.mem_of_getElem? (i := 0) rfl)))
  have Ff_24 : Fld Z h22 a0 "com/example/stochist/stochist/histogram/WeightedPoints" "size" "I" (.int (0 : Int32)) := ((((((F_size.ext E2).other W5 (Or.inr (slot_ne (Or.inl (hw _ (List.mem_of_getElem? (i := 42) rfl))) (Or.inr (hw _ (List.mem_of_getElem? (i := 31) rfl))) (by decide) (t := .int) (t' := (.array .double)) (by decide) (by decide)))).ext E10).other W13 (Or.inr (slot_ne (Or.inl (hw _ (List.mem_of_getElem? (i := 42) rfl))) (Or.inr (hw _ (List.mem_of_getElem? (i := 33) rfl))) (by decide) (t := .int) (t' := (.array .double)) (by decide) (by decide)))).ext E19).other W22 (Or.inr (slot_ne (Or.inl (hw _ (List.mem_of_getElem? (i := 42) rfl))) (Or.inr (hw _ (List.mem_of_getElem? (i := 35) rfl))) (by decide) (t := .int) (t' := (.array .double)) (by decide) (by decide))))
  have Ff_25 : Fld Z h22 a0 "com/example/stochist/stochist/histogram/WeightedPoints" "weights" "[D" (.ref b2) := ((((Fw5.ext E10).other W13 (Or.inr (slot_ne (Or.inr (hw _ (List.mem_of_getElem? (i := 31) rfl))) (Or.inr (hw _ (List.mem_of_getElem? (i := 33) rfl))) (by decide) (t := (.array .double)) (t' := (.array .double)) (by decide) (by decide)))).ext E19).other W22 (Or.inr (slot_ne (Or.inr (hw _ (List.mem_of_getElem? (i := 31) rfl))) (Or.inr (hw _ (List.mem_of_getElem? (i := 35) rfl))) (by decide) (t := (.array .double)) (t' := (.array .double)) (by decide) (by decide))))
  have Ff_26 : Fld Z h22 a0 "com/example/stochist/stochist/histogram/WeightedPoints" "values" "[D" (.ref b10) := ((Fw13.ext E19).other W22 (Or.inr (slot_ne (Or.inr (hw _ (List.mem_of_getElem? (i := 33) rfl))) (Or.inr (hw _ (List.mem_of_getElem? (i := 35) rfl))) (by decide) (t := (.array .double)) (t' := (.array .double)) (by decide) (by decide))))
  have Va_27 : Arv Z h22 b2 k2 .double (3 : Int32) [(.double (FP.l2d 0)), (.double (FP.l2d 0)), (.double (FP.l2d 0))] (.double (FP.l2d 0)) := ((Va_18.ext E19).other W22 (Ne.symm ne_a0_b2))
  have Va_28 : Arv Z h22 b10 k10 .double (3 : Int32) [(.double (FP.l2d 0)), (.double (FP.l2d 0)), (.double (FP.l2d 0))] (.double (FP.l2d 0)) := ((Va_17.ext E19).other W22 (Ne.symm ne_a0_b10))
  have Va_29 : Arv Z h22 b19 k19 .double (3 : Int32) [(.double (FP.l2d 0)), (.double (FP.l2d 0)), (.double (FP.l2d 0))] (.double (FP.l2d 0)) := (V_b19.other W22 (Ne.symm ne_a0_b19))
  obtain ⟨fs, hr, hrun, hended, hW, hsame⟩ := X22.leave (v := none) (fun _ => rfl)
  refine ⟨_, _, pre0 _ ?_, hrun, hended, _, _, rfl, ?_, ⟨_, rfl⟩, hW, hsame.mono (by decide) (by decide)⟩
  · show Steps p.tables e below (s₁.setTop (mkF m 0 #[.val (.ref a0), .val (.int (2 : Int32))] [])) _
    refine XS.aloadN X0.here hx rfl (hb hby d4_0) rfl rfl ?_
    show Steps p.tables e below (s₁.setTop (mkF m 1 #[.val (.ref a0), .val (.int (2 : Int32))] [(.ref a0)])) _
    refine st1 _ ?_
    show Steps p.tables e below (T1.setTop (mkF m 4 #[.val (.ref a0), .val (.int (2 : Int32))] [])) _
    refine XS.aloadN X1.here hx rfl (hb hby d4_4) rfl rfl ?_
    show Steps p.tables e below (T1.setTop (mkF m 5 #[.val (.ref a0), .val (.int (2 : Int32))] [(.ref a0)])) _
    refine XS.iloadN X1.here hx rfl (hb hby d4_5) rfl ?_
    show Steps p.tables e below (T1.setTop (mkF m 6 #[.val (.ref a0), .val (.int (2 : Int32))] [(.int (2 : Int32)), (.ref a0)])) _
    refine XS.iconst X1.here hx rfl (hb hby d4_6) ?_
    show Steps p.tables e below (T1.setTop (mkF m 7 #[.val (.ref a0), .val (.int (2 : Int32))] [(.int (1 : Int32)), (.int (2 : Int32)), (.ref a0)])) _
    refine XS.iadd X1.here hx rfl (hb hby d4_7) rfl ?_
    rw [show ((2 : Int32) + (1 : Int32)) = (3 : Int32) from by decide]
    show Steps p.tables e below (T1.setTop (mkF m 8 #[.val (.ref a0), .val (.int (2 : Int32))] [(.int (3 : Int32)), (.ref a0)])) _
    refine st2 _ ?_
    show Steps p.tables e below (T2.setTop (mkF m 10 #[.val (.ref a0), .val (.int (2 : Int32))] [(.ref b2), (.ref a0)])) _
    refine st5 _ ?_
    show Steps p.tables e below (T5.setTop (mkF m 13 #[.val (.ref a0), .val (.int (2 : Int32))] [])) _
    refine XS.aloadN X5.here hx rfl (hb hby d4_13) rfl rfl ?_
    show Steps p.tables e below (T5.setTop (mkF m 14 #[.val (.ref a0), .val (.int (2 : Int32))] [(.ref a0)])) _
    refine XS.iloadN X5.here hx rfl (hb hby d4_14) rfl ?_
    show Steps p.tables e below (T5.setTop (mkF m 15 #[.val (.ref a0), .val (.int (2 : Int32))] [(.int (2 : Int32)), (.ref a0)])) _
    refine XS.iconst X5.here hx rfl (hb hby d4_15) ?_
    show Steps p.tables e below (T5.setTop (mkF m 16 #[.val (.ref a0), .val (.int (2 : Int32))] [(.int (1 : Int32)), (.int (2 : Int32)), (.ref a0)])) _
    refine XS.iadd X5.here hx rfl (hb hby d4_16) rfl ?_
    rw [show ((2 : Int32) + (1 : Int32)) = (3 : Int32) from by decide]
    show Steps p.tables e below (T5.setTop (mkF m 17 #[.val (.ref a0), .val (.int (2 : Int32))] [(.int (3 : Int32)), (.ref a0)])) _
    refine st10 _ ?_
    show Steps p.tables e below (T10.setTop (mkF m 19 #[.val (.ref a0), .val (.int (2 : Int32))] [(.ref b10), (.ref a0)])) _
    refine st13 _ ?_
    show Steps p.tables e below (T13.setTop (mkF m 22 #[.val (.ref a0), .val (.int (2 : Int32))] [])) _
    refine XS.aloadN X13.here hx rfl (hb hby d4_22) rfl rfl ?_
    show Steps p.tables e below (T13.setTop (mkF m 23 #[.val (.ref a0), .val (.int (2 : Int32))] [(.ref a0)])) _
    refine XS.iloadN X13.here hx rfl (hb hby d4_23) rfl ?_
    show Steps p.tables e below (T13.setTop (mkF m 24 #[.val (.ref a0), .val (.int (2 : Int32))] [(.int (2 : Int32)), (.ref a0)])) _
    refine XS.iconst X13.here hx rfl (hb hby d4_24) ?_
    show Steps p.tables e below (T13.setTop (mkF m 25 #[.val (.ref a0), .val (.int (2 : Int32))] [(.int (1 : Int32)), (.int (2 : Int32)), (.ref a0)])) _
    refine XS.iadd X13.here hx rfl (hb hby d4_25) rfl ?_
    rw [show ((2 : Int32) + (1 : Int32)) = (3 : Int32) from by decide]
    show Steps p.tables e below (T13.setTop (mkF m 26 #[.val (.ref a0), .val (.int (2 : Int32))] [(.int (3 : Int32)), (.ref a0)])) _
    refine st19 _ ?_
    show Steps p.tables e below (T19.setTop (mkF m 28 #[.val (.ref a0), .val (.int (2 : Int32))] [(.ref b19), (.ref a0)])) _
    refine st22 _ ?_
    show Steps p.tables e below (T22.setTop (mkF m 31 #[.val (.ref a0), .val (.int (2 : Int32))] [])) _
    exact X22.returnOut hx Bd.returns (hb hby d4_31) hr
  · show rm4Q Z a0 h0 n0 _ T22.heap _
    rw [e22]
    exact ⟨rfl, N22, Kk_23, Ff_24, b2, b10, b19, k2, k10, k19, sz_b2, sz_b10, sz_b19, ne_b2_b10, ne_b2_b19, ne_b10_b19, Ff_25, Ff_26, Fw22, Va_27, Va_28, Va_29⟩
theorem d6_0 : decode prog_24_method_5_code 0 = .ok (.aload_n 0, 1) := by decide +kernel
theorem d6_1 : decode prog_24_method_5_code 1 = .ok (.getfield 7, 3) := by decide +kernel
theorem d6_4 : decode prog_24_method_5_code 4 = .ok (.dreturn, 1) := by decide +kernel
theorem pn_6 : plainName "com/example/stochist/stochist/histogram/WeightedPoints$Point" = true := by first | (simp [plainName, overriddenIn]; done) | decide +kernel
theorem ef_rm6 (m : MethodId) (a0 : Addr) : entryFrame m #[(.ref a0)] 1 = mkF m 0 #[.val (.ref a0)] [] := by first | (simp [entryFrame, mkF, argsToLocals, Value.category]; done) | rfl
def rm6Q (Z : State) (a0 : Addr) (d1 : UInt64) (h0 : Heap) (n0 : Nat) (v : Option Value) (h : Heap) (L : List Loc) : Prop := v = some (.double d1) ∧ Fr n0 L ∧ h = h0
set_option maxRecDepth 65536 in
set_option maxHeartbeats 40000000 in
theorem rm6 (l : Launch) (Z : State) (aw : Array Value) (hw : ∀ d ∈ tables_1, d.before aw Z = true) (ws : List Jvm.Cond) (a0 : Addr) (d1 : UInt64) (h0 : Heap) (n0 : Nat) (Z0 : n0 ≤ h0.size) (F_weight : Fld Z h0 a0 "com/example/stochist/stochist/histogram/WeightedPoints$Point" "weight" "D" (.double d1)) :
    MetFree l (⟨"com/example/stochist/stochist/histogram/WeightedPoints$Point", "weight", "()D"⟩ : MethodName) (head1 (Jvm.Cond.code (⟨"com/example/stochist/stochist/histogram/WeightedPoints$Point", "weight", "()D"⟩ : MethodName) prog_24_method_5_code 1 (some .double) :: ws) ({ frames := 0, cells := 0, slots := 0, locals := 0 } : Room)) (fun a U => a = #[(.ref a0)] ∧ Z.Warmed39 U.vm ∧ U.heap = h0) (fun _ _ _ _ _ => True) (fun _ U o U' => ∃ v L, o = .returned v ∧ rm6Q Z a0 d1 h0 n0 v U'.heap L ∧ FrameEnd U o U' L ({ frames := 0, cells := 0, slots := 0, locals := 0 } : Room).cells ({ frames := 0, cells := 0, slots := 0, locals := 0 } : Room).slots) := by
  refine MetFree.of_bodySF (plainFor_of_name pn_6) hisR ?_
  intro p e s m args below meth c s₁ Bd hml0 hP hK
  obtain ⟨rfl, hZ, hh⟩ := hP
  have hx := Bd.exec
  have hby := Bd.bytes
  have hml : c.maxLocals = 1 := hml0
  have hown : s.vm.findClass "com/example/stochist/stochist/histogram/WeightedPoints$Point" = some m.cls := findClass_of_methodNamed Bd.named
  have hnm := (name_of_methodNamed Bd.named Bd.method).1
  have X0 : Stand p l e ({ frames := 0, cells := 0, slots := 0, locals := 0 } : Room) s m #[(.ref a0)] below meth c s₁ [] 0 0 := Stand.of_body Bd
  have e0 : s₁.heap = h0 := by rw [← hh, Bd.state]; rfl
  have N0 := Fr.nil n0
  have pre0 : ∀ t, Steps p.tables e below (s₁.setTop (mkF m 0 #[.val (.ref a0)] [])) t → Steps p.tables e below (s₁.setTop (entryFrame m #[(.ref a0)] 1)) t := fun t k => castTop (ef_rm6 m a0) k
  obtain ⟨T1, X1, e1, st1⟩ := getF X0 hx hZ hown (host := "") (Or.inl (hw _ (List.mem_of_getElem? (i := 16) rfl))) Via.refl e0 F_weight (g := (mkF m 1 #[.val (.ref a0)] [(.ref a0)])) rfl rfl (hb hby d6_1)
  obtain ⟨fs, hr, hrun, hended, hW, hsame⟩ := X1.leave (v := some (.double d1)) (fun h => by rw [Bd.returns] at h; cases h)
  refine ⟨_, _, pre0 _ ?_, hrun, hended, _, _, rfl, ?_, ⟨_, rfl⟩, hW, hsame.mono (by decide) (by decide)⟩
  · show Steps p.tables e below (s₁.setTop (mkF m 0 #[.val (.ref a0)] [])) _
    refine XS.aloadN X0.here hx rfl (hb hby d6_0) rfl rfl ?_
    show Steps p.tables e below (s₁.setTop (mkF m 1 #[.val (.ref a0)] [(.ref a0)])) _
    refine st1 _ ?_
    show Steps p.tables e below (T1.setTop (mkF m 4 #[.val (.ref a0)] [(.double d1)])) _
    jvm_step X1.here [X1.here.top, hx, (hb hby d6_4), X1.method', Bd.returns, narrow]
    first | (intro acts; rw [hr _ acts rfl rfl rfl]) | rw [hr _ _ rfl rfl rfl]
    exact Steps.refl _
  · show rm6Q Z a0 d1 h0 n0 _ T1.heap _
    rw [e1]
    exact ⟨rfl, N0, rfl⟩
theorem d7_0 : decode prog_24_method_6_code 0 = .ok (.aload_n 0, 1) := by decide +kernel
theorem d7_1 : decode prog_24_method_6_code 1 = .ok (.getfield 13, 3) := by decide +kernel
theorem d7_4 : decode prog_24_method_6_code 4 = .ok (.dreturn, 1) := by decide +kernel
theorem pn_7 : plainName "com/example/stochist/stochist/histogram/WeightedPoints$Point" = true := by first | (simp [plainName, overriddenIn]; done) | decide +kernel
theorem ef_rm7 (m : MethodId) (a0 : Addr) : entryFrame m #[(.ref a0)] 1 = mkF m 0 #[.val (.ref a0)] [] := by first | (simp [entryFrame, mkF, argsToLocals, Value.category]; done) | rfl
def rm7Q (Z : State) (a0 : Addr) (d1 : UInt64) (h0 : Heap) (n0 : Nat) (v : Option Value) (h : Heap) (L : List Loc) : Prop := v = some (.double d1) ∧ Fr n0 L ∧ h = h0
set_option maxRecDepth 65536 in
set_option maxHeartbeats 40000000 in
theorem rm7 (l : Launch) (Z : State) (aw : Array Value) (hw : ∀ d ∈ tables_1, d.before aw Z = true) (ws : List Jvm.Cond) (a0 : Addr) (d1 : UInt64) (h0 : Heap) (n0 : Nat) (Z0 : n0 ≤ h0.size) (F_value : Fld Z h0 a0 "com/example/stochist/stochist/histogram/WeightedPoints$Point" "value" "D" (.double d1)) :
    MetFree l (⟨"com/example/stochist/stochist/histogram/WeightedPoints$Point", "value", "()D"⟩ : MethodName) (head1 (Jvm.Cond.code (⟨"com/example/stochist/stochist/histogram/WeightedPoints$Point", "value", "()D"⟩ : MethodName) prog_24_method_6_code 1 (some .double) :: ws) ({ frames := 0, cells := 0, slots := 0, locals := 0 } : Room)) (fun a U => a = #[(.ref a0)] ∧ Z.Warmed39 U.vm ∧ U.heap = h0) (fun _ _ _ _ _ => True) (fun _ U o U' => ∃ v L, o = .returned v ∧ rm7Q Z a0 d1 h0 n0 v U'.heap L ∧ FrameEnd U o U' L ({ frames := 0, cells := 0, slots := 0, locals := 0 } : Room).cells ({ frames := 0, cells := 0, slots := 0, locals := 0 } : Room).slots) := by
  refine MetFree.of_bodySF (plainFor_of_name pn_7) hisR ?_
  intro p e s m args below meth c s₁ Bd hml0 hP hK
  obtain ⟨rfl, hZ, hh⟩ := hP
  have hx := Bd.exec
  have hby := Bd.bytes
  have hml : c.maxLocals = 1 := hml0
  have hown : s.vm.findClass "com/example/stochist/stochist/histogram/WeightedPoints$Point" = some m.cls := findClass_of_methodNamed Bd.named
  have hnm := (name_of_methodNamed Bd.named Bd.method).1
  have X0 : Stand p l e ({ frames := 0, cells := 0, slots := 0, locals := 0 } : Room) s m #[(.ref a0)] below meth c s₁ [] 0 0 := Stand.of_body Bd
  have e0 : s₁.heap = h0 := by rw [← hh, Bd.state]; rfl
  have N0 := Fr.nil n0
  have pre0 : ∀ t, Steps p.tables e below (s₁.setTop (mkF m 0 #[.val (.ref a0)] [])) t → Steps p.tables e below (s₁.setTop (entryFrame m #[(.ref a0)] 1)) t := fun t k => castTop (ef_rm7 m a0) k
  obtain ⟨T1, X1, e1, st1⟩ := getF X0 hx hZ hown (host := "") (Or.inl (hw _ (List.mem_of_getElem? (i := 18) rfl))) Via.refl e0 F_value (g := (mkF m 1 #[.val (.ref a0)] [(.ref a0)])) rfl rfl (hb hby d7_1)
  obtain ⟨fs, hr, hrun, hended, hW, hsame⟩ := X1.leave (v := some (.double d1)) (fun h => by rw [Bd.returns] at h; cases h)
  refine ⟨_, _, pre0 _ ?_, hrun, hended, _, _, rfl, ?_, ⟨_, rfl⟩, hW, hsame.mono (by decide) (by decide)⟩
  · show Steps p.tables e below (s₁.setTop (mkF m 0 #[.val (.ref a0)] [])) _
    refine XS.aloadN X0.here hx rfl (hb hby d7_0) rfl rfl ?_
    show Steps p.tables e below (s₁.setTop (mkF m 1 #[.val (.ref a0)] [(.ref a0)])) _
    refine st1 _ ?_
    show Steps p.tables e below (T1.setTop (mkF m 4 #[.val (.ref a0)] [(.double d1)])) _
    jvm_step X1.here [X1.here.top, hx, (hb hby d7_4), X1.method', Bd.returns, narrow]
    first | (intro acts; rw [hr _ acts rfl rfl rfl]) | rw [hr _ _ rfl rfl rfl]
    exact Steps.refl _
  · show rm7Q Z a0 d1 h0 n0 _ T1.heap _
    rw [e1]
    exact ⟨rfl, N0, rfl⟩
theorem d8_0 : decode prog_24_method_7_code 0 = .ok (.aload_n 0, 1) := by decide +kernel
theorem d8_1 : decode prog_24_method_7_code 1 = .ok (.getfield 16, 3) := by decide +kernel
theorem d8_4 : decode prog_24_method_7_code 4 = .ok (.dreturn, 1) := by decide +kernel
theorem pn_8 : plainName "com/example/stochist/stochist/histogram/WeightedPoints$Point" = true := by first | (simp [plainName, overriddenIn]; done) | decide +kernel
theorem ef_rm8 (m : MethodId) (a0 : Addr) : entryFrame m #[(.ref a0)] 1 = mkF m 0 #[.val (.ref a0)] [] := by first | (simp [entryFrame, mkF, argsToLocals, Value.category]; done) | rfl
def rm8Q (Z : State) (a0 : Addr) (d1 : UInt64) (h0 : Heap) (n0 : Nat) (v : Option Value) (h : Heap) (L : List Loc) : Prop := v = some (.double d1) ∧ Fr n0 L ∧ h = h0
set_option maxRecDepth 65536 in
set_option maxHeartbeats 40000000 in
theorem rm8 (l : Launch) (Z : State) (aw : Array Value) (hw : ∀ d ∈ tables_1, d.before aw Z = true) (ws : List Jvm.Cond) (a0 : Addr) (d1 : UInt64) (h0 : Heap) (n0 : Nat) (Z0 : n0 ≤ h0.size) (F_error : Fld Z h0 a0 "com/example/stochist/stochist/histogram/WeightedPoints$Point" "error" "D" (.double d1)) :
    MetFree l (⟨"com/example/stochist/stochist/histogram/WeightedPoints$Point", "error", "()D"⟩ : MethodName) (head1 (Jvm.Cond.code (⟨"com/example/stochist/stochist/histogram/WeightedPoints$Point", "error", "()D"⟩ : MethodName) prog_24_method_7_code 1 (some .double) :: ws) ({ frames := 0, cells := 0, slots := 0, locals := 0 } : Room)) (fun a U => a = #[(.ref a0)] ∧ Z.Warmed39 U.vm ∧ U.heap = h0) (fun _ _ _ _ _ => True) (fun _ U o U' => ∃ v L, o = .returned v ∧ rm8Q Z a0 d1 h0 n0 v U'.heap L ∧ FrameEnd U o U' L ({ frames := 0, cells := 0, slots := 0, locals := 0 } : Room).cells ({ frames := 0, cells := 0, slots := 0, locals := 0 } : Room).slots) := by
  refine MetFree.of_bodySF (plainFor_of_name pn_8) hisR ?_
  intro p e s m args below meth c s₁ Bd hml0 hP hK
  obtain ⟨rfl, hZ, hh⟩ := hP
  have hx := Bd.exec
  have hby := Bd.bytes
  have hml : c.maxLocals = 1 := hml0
  have hown : s.vm.findClass "com/example/stochist/stochist/histogram/WeightedPoints$Point" = some m.cls := findClass_of_methodNamed Bd.named
  have hnm := (name_of_methodNamed Bd.named Bd.method).1
  have X0 : Stand p l e ({ frames := 0, cells := 0, slots := 0, locals := 0 } : Room) s m #[(.ref a0)] below meth c s₁ [] 0 0 := Stand.of_body Bd
  have e0 : s₁.heap = h0 := by rw [← hh, Bd.state]; rfl
  have N0 := Fr.nil n0
  have pre0 : ∀ t, Steps p.tables e below (s₁.setTop (mkF m 0 #[.val (.ref a0)] [])) t → Steps p.tables e below (s₁.setTop (entryFrame m #[(.ref a0)] 1)) t := fun t k => castTop (ef_rm8 m a0) k
  obtain ⟨T1, X1, e1, st1⟩ := getF X0 hx hZ hown (host := "") (Or.inl (hw _ (List.mem_of_getElem? (i := 20) rfl))) Via.refl e0 F_error (g := (mkF m 1 #[.val (.ref a0)] [(.ref a0)])) rfl rfl (hb hby d8_1)
  obtain ⟨fs, hr, hrun, hended, hW, hsame⟩ := X1.leave (v := some (.double d1)) (fun h => by rw [Bd.returns] at h; cases h)
  refine ⟨_, _, pre0 _ ?_, hrun, hended, _, _, rfl, ?_, ⟨_, rfl⟩, hW, hsame.mono (by decide) (by decide)⟩
  · show Steps p.tables e below (s₁.setTop (mkF m 0 #[.val (.ref a0)] [])) _
    refine XS.aloadN X0.here hx rfl (hb hby d8_0) rfl rfl ?_
    show Steps p.tables e below (s₁.setTop (mkF m 1 #[.val (.ref a0)] [(.ref a0)])) _
    refine st1 _ ?_
    show Steps p.tables e below (T1.setTop (mkF m 4 #[.val (.ref a0)] [(.double d1)])) _
    jvm_step X1.here [X1.here.top, hx, (hb hby d8_4), X1.method', Bd.returns, narrow]
    first | (intro acts; rw [hr _ acts rfl rfl rfl]) | rw [hr _ _ rfl rfl rfl]
    exact Steps.refl _
  · show rm8Q Z a0 d1 h0 n0 _ T1.heap _
    rw [e1]
    exact ⟨rfl, N0, rfl⟩
theorem d5_0 : decode prog_23_method_3_code 0 = .ok (.aload_n 0, 1) := by decide +kernel
theorem d5_1 : decode prog_23_method_3_code 1 = .ok (.dup, 1) := by decide +kernel
theorem d5_2 : decode prog_23_method_3_code 2 = .ok (.getfield 38, 3) := by decide +kernel
theorem d5_5 : decode prog_23_method_3_code 5 = .ok (.iconst 1, 1) := by decide +kernel
theorem d5_6 : decode prog_23_method_3_code 6 = .ok (.iadd, 1) := by decide +kernel
theorem d5_7 : decode prog_23_method_3_code 7 = .ok (.putfield 38, 3) := by decide +kernel
theorem d5_10 : decode prog_23_method_3_code 10 = .ok (.aload_n 0, 1) := by decide +kernel
theorem d5_11 : decode prog_23_method_3_code 11 = .ok (.getfield 9, 3) := by decide +kernel
theorem d5_14 : decode prog_23_method_3_code 14 = .ok (.aload_n 0, 1) := by decide +kernel
theorem d5_15 : decode prog_23_method_3_code 15 = .ok (.getfield 38, 3) := by decide +kernel
theorem d5_18 : decode prog_23_method_3_code 18 = .ok (.aload_n 1, 1) := by decide +kernel
theorem d5_19 : decode prog_23_method_3_code 19 = .ok (.invokevirtual 42, 3) := by decide +kernel
theorem d5_22 : decode prog_23_method_3_code 22 = .ok (.dastore, 1) := by decide +kernel
theorem d5_23 : decode prog_23_method_3_code 23 = .ok (.aload_n 0, 1) := by decide +kernel
theorem d5_24 : decode prog_23_method_3_code 24 = .ok (.getfield 15, 3) := by decide +kernel
theorem d5_27 : decode prog_23_method_3_code 27 = .ok (.aload_n 0, 1) := by decide +kernel
theorem d5_28 : decode prog_23_method_3_code 28 = .ok (.getfield 38, 3) := by decide +kernel
theorem d5_31 : decode prog_23_method_3_code 31 = .ok (.aload_n 1, 1) := by decide +kernel
theorem d5_32 : decode prog_23_method_3_code 32 = .ok (.invokevirtual 45, 3) := by decide +kernel
theorem d5_35 : decode prog_23_method_3_code 35 = .ok (.dastore, 1) := by decide +kernel
theorem d5_36 : decode prog_23_method_3_code 36 = .ok (.aload_n 0, 1) := by decide +kernel
theorem d5_37 : decode prog_23_method_3_code 37 = .ok (.getfield 18, 3) := by decide +kernel
theorem d5_40 : decode prog_23_method_3_code 40 = .ok (.aload_n 0, 1) := by decide +kernel
theorem d5_41 : decode prog_23_method_3_code 41 = .ok (.getfield 38, 3) := by decide +kernel
theorem d5_44 : decode prog_23_method_3_code 44 = .ok (.aload_n 1, 1) := by decide +kernel
theorem d5_45 : decode prog_23_method_3_code 45 = .ok (.invokevirtual 47, 3) := by decide +kernel
theorem d5_48 : decode prog_23_method_3_code 48 = .ok (.dastore, 1) := by decide +kernel
theorem d5_49 : decode prog_23_method_3_code 49 = .ok (.return_, 1) := by decide +kernel
theorem pn_5 : plainName "com/example/stochist/stochist/histogram/WeightedPoints" = true := by first | (simp [plainName, overriddenIn]; done) | decide +kernel
theorem pd_rm5_0_0 : parseMethodDescriptor "()D" = some ⟨[], some .double⟩ := by decide +kernel
theorem ef_rm5_0 (m : MethodId) (a0 : Addr) (a1 : Addr) : entryFrame m #[(.ref a0), (.ref a1)] 2 = mkF m 0 #[.val (.ref a0), .val (.ref a1)] [] := by first | (simp [entryFrame, mkF, argsToLocals, Value.category]; done) | rfl
def rm5_0Q (Z : State) (a0 a1 : Addr) (b1 b2 b3 : Addr) (k1 k2 k3 : ClassId) (d1 d2 d3 x0 x1 x2 y0 y1 y2 z0 z1 z2 : UInt64) (h0 : Heap) (n0 : Nat) (v : Option Value) (h : Heap) (L : List Loc) : Prop := v = none ∧ Fr n0 L ∧ Keep h0 h [a0, b1, b2, b3] ∧ Fld Z h a0 "com/example/stochist/stochist/histogram/WeightedPoints" "size" "I" (.int (1 : Int32)) ∧ Fld Z h a0 "com/example/stochist/stochist/histogram/WeightedPoints" "weights" "[D" (.ref b1) ∧ Fld Z h a0 "com/example/stochist/stochist/histogram/WeightedPoints" "values" "[D" (.ref b2) ∧ Fld Z h a0 "com/example/stochist/stochist/histogram/WeightedPoints" "errors" "[D" (.ref b3) ∧ Arv Z h b1 k1 .double (3 : Int32) [(.double x0), (.double d1), (.double x2)] (.double (FP.l2d 0)) ∧ Arv Z h b2 k2 .double (3 : Int32) [(.double y0), (.double d2), (.double y2)] (.double (FP.l2d 0)) ∧ Arv Z h b3 k3 .double (3 : Int32) [(.double z0), (.double d3), (.double z2)] (.double (FP.l2d 0))
set_option maxRecDepth 65536 in
set_option maxHeartbeats 40000000 in
theorem rm5_0 (l : Launch) (Z : State) (aw : Array Value) (hw : ∀ d ∈ tables_1, d.before aw Z = true) (ws : List Jvm.Cond) (a0 : Addr) (a1 : Addr) (b1 b2 b3 : Addr) (k1 k2 k3 : ClassId) (d1 d2 d3 x0 x1 x2 y0 y1 y2 z0 z1 z2 : UInt64) (h0 : Heap) (n0 : Nat) (Z0 : n0 ≤ h0.size) (E_a0 : Exa Z h0 a0 "com/example/stochist/stochist/histogram/WeightedPoints") (E_a1 : Exa Z h0 a1 "com/example/stochist/stochist/histogram/WeightedPoints$Point") (F_size : Fld Z h0 a0 "com/example/stochist/stochist/histogram/WeightedPoints" "size" "I" (.int (0 : Int32))) (F_weights : Fld Z h0 a0 "com/example/stochist/stochist/histogram/WeightedPoints" "weights" "[D" (.ref b1)) (F_values : Fld Z h0 a0 "com/example/stochist/stochist/histogram/WeightedPoints" "values" "[D" (.ref b2)) (F_errors : Fld Z h0 a0 "com/example/stochist/stochist/histogram/WeightedPoints" "errors" "[D" (.ref b3)) (P_weights : Fld Z h0 a1 "com/example/stochist/stochist/histogram/WeightedPoints$Point" "weight" "D" (.double d1)) (P_values : Fld Z h0 a1 "com/example/stochist/stochist/histogram/WeightedPoints$Point" "value" "D" (.double d2)) (P_errors : Fld Z h0 a1 "com/example/stochist/stochist/histogram/WeightedPoints$Point" "error" "D" (.double d3)) (V_weights : Arv Z h0 b1 k1 .double (3 : Int32) [(.double x0), (.double x1), (.double x2)] (.double (FP.l2d 0))) (V_values : Arv Z h0 b2 k2 .double (3 : Int32) [(.double y0), (.double y1), (.double y2)] (.double (FP.l2d 0))) (V_errors : Arv Z h0 b3 k3 .double (3 : Int32) [(.double z0), (.double z1), (.double z2)] (.double (FP.l2d 0))) (ne_a0_a1 : a0 ≠ a1) (ne_a0_b1 : a0 ≠ b1) (ne_a0_b2 : a0 ≠ b2) (ne_a0_b3 : a0 ≠ b3) (ne_a1_b1 : a1 ≠ b1) (ne_a1_b2 : a1 ≠ b2) (ne_a1_b3 : a1 ≠ b3) (ne_b1_b2 : b1 ≠ b2) (ne_b1_b3 : b1 ≠ b3) (ne_b2_b3 : b2 ≠ b3) (g_a0 : n0 ≤ a0) (g_b1 : n0 ≤ b1) (g_b2 : n0 ≤ b2) (g_b3 : n0 ≤ b3) :
    MetFree l (⟨"com/example/stochist/stochist/histogram/WeightedPoints", "add", "(Lcom/example/stochist/stochist/histogram/WeightedPoints$Point;)V"⟩ : MethodName) (head1 (Jvm.Cond.code (⟨"com/example/stochist/stochist/histogram/WeightedPoints", "add", "(Lcom/example/stochist/stochist/histogram/WeightedPoints$Point;)V"⟩ : MethodName) prog_23_method_3_code 2 none :: ws) ({ frames := 1, cells := 0, slots := 0, locals := 14 } : Room)) (fun a U => a = #[(.ref a0), (.ref a1)] ∧ Z.Warmed39 U.vm ∧ U.heap = h0) (fun _ _ _ _ _ => True) (fun _ U o U' => ∃ v L, o = .returned v ∧ rm5_0Q Z a0 a1 b1 b2 b3 k1 k2 k3 d1 d2 d3 x0 x1 x2 y0 y1 y2 z0 z1 z2 h0 n0 v U'.heap L ∧ FrameEnd U o U' L ({ frames := 1, cells := 0, slots := 0, locals := 14 } : Room).cells ({ frames := 1, cells := 0, slots := 0, locals := 14 } : Room).slots) := by
  refine MetFree.of_bodySF (plainFor_of_name pn_5) hisR ?_
  intro p e s m args below meth c s₁ Bd hml0 hP hK
  obtain ⟨rfl, hZ, hh⟩ := hP
  have hx := Bd.exec
  have hby := Bd.bytes
  have hml : c.maxLocals = 2 := hml0
  have hown : s.vm.findClass "com/example/stochist/stochist/histogram/WeightedPoints" = some m.cls := findClass_of_methodNamed Bd.named
  have hnm := (name_of_methodNamed Bd.named Bd.method).1
  have X0 : Stand p l e ({ frames := 1, cells := 0, slots := 0, locals := 14 } : Room) s m #[(.ref a0), (.ref a1)] below meth c s₁ [] 0 0 := Stand.of_body Bd
  have e0 : s₁.heap = h0 := by rw [← hh, Bd.state]; rfl
  have N0 := Fr.nil n0
  have pre0 : ∀ t, Steps p.tables e below (s₁.setTop (mkF m 0 #[.val (.ref a0), .val (.ref a1)] [])) t → Steps p.tables e below (s₁.setTop (entryFrame m #[(.ref a0), (.ref a1)] 2)) t := fun t k => castTop (ef_rm5_0 m a0 a1) k
  obtain ⟨T1, X1, e1, st1⟩ := getF X0 hx hZ hown (host := "") (Or.inl (hw _ (List.mem_of_getElem? (i := 41) rfl))) Via.refl e0 F_size (g := (mkF m 2 #[.val (.ref a0), .val (.ref a1)] [(.ref a0), (.ref a0)])) rfl rfl (hb hby d5_2)
  obtain ⟨T2, h2, X2, e2, W2, st2⟩ := putF X1 hx hZ hown (host := "") (Or.inl (hw _ (List.mem_of_getElem? (i := 41) rfl))) Via.refl e1 F_size E_a0 (Or.inl (hw _ (List.mem_of_getElem? (i := 42) rfl))) (hw _ (List.mem_of_getElem? (i := 23) rfl)) (ty := .int) (by decide) rfl rfl (g := (mkF m 7 #[.val (.ref a0), .val (.ref a1)] [(.int (1 : Int32)), (.ref a0)])) rfl rfl (hb hby d5_7)
  have Fw2 := Fld.same W2 F_size
  have N2 := Fr.snoc X2 N0 g_a0
  have Ff_3 : Fld Z h2 a0 "com/example/stochist/stochist/histogram/WeightedPoints" "weights" "[D" (.ref b1) := (F_weights.other W2 (Or.inr (slot_ne (Or.inr (hw _ (List.mem_of_getElem? (i := 31) rfl))) (Or.inl (hw _ (List.mem_of_getElem? (i := 42) rfl))) (by decide) (t := (.array .double)) (t' := .int) (by decide) (by decide))))
  obtain ⟨T4, X4, e4, st4⟩ := getF X2 hx hZ hown (host := "") (Or.inl (hw _ (List.mem_of_getElem? (i := 30) rfl))) Via.refl e2 Ff_3 (g := (mkF m 11 #[.val (.ref a0), .val (.ref a1)] [(.ref a0)])) rfl rfl (hb hby d5_11)
  obtain ⟨T5, X5, e5, st5⟩ := getF X4 hx hZ hown (host := "") (Or.inl (hw _ (List.mem_of_getElem? (i := 41) rfl))) Via.refl e4 Fw2 (g := (mkF m 15 #[.val (.ref a0), .val (.ref a1)] [(.ref a0), (.ref b1)])) rfl rfl (hb hby d5_15)
  have Zz_7 : n0 ≤ h2.size := (Nat.le_trans Z0 (Keep.of_wr W2).1)
  have Ff_8 : Fld Z h2 a1 "com/example/stochist/stochist/histogram/WeightedPoints$Point" "weight" "D" (.double d1) := (P_weights.other W2 (Or.inl (Ne.symm ne_a0_a1)))
  have Ee_9 : Exa Z h2 a1 "com/example/stochist/stochist/histogram/WeightedPoints$Point" := (E_a1.wr W2)
  obtain ⟨cq6, kq6, q6a, q6b, q6c⟩ := isOf hZ e5 (Ee_9)
  obtain ⟨_, _, ⟨T6, L6, k6, n6⟩, -, X6, ⟨Lc6, hQ6, l6, y6, z6⟩, st6⟩ := X5.virtualBack hx (y := (⟨"com/example/stochist/stochist/histogram/WeightedPoints$Point", "weight", "()D"⟩ : MethodName)) (z := (⟨"com/example/stochist/stochist/histogram/WeightedPoints$Point", "weight", "()D"⟩ : MethodName)) hown (mvT hZ (hw _ (List.mem_of_getElem? (i := 43) rfl))) (mvT hZ (hw _ (List.mem_of_getElem? (i := 44) rfl))) (notFace_of_selects (args := #[]) (mvT hZ (hw _ (List.mem_of_getElem? (i := 46) rfl)))) (mvT hZ (hw _ (List.mem_of_getElem? (i := 46) rfl))) (mvT hZ (hw _ (List.mem_of_getElem? (i := 45) rfl))) (by decide) (backOf (W := 2) (rm6 l Z aw hw [] a1 d1 h2 n0 Zz_7 Ff_8) hZ (hw _ (List.mem_of_getElem? (i := 47) rfl)) (hw _ (List.mem_of_getElem? (i := 4) rfl)) (by decide) (by decide)) q6a q6c (g := (mkF m 19 #[.val (.ref a0), .val (.ref a1)] [(.ref a1), (.int (1 : Int32)), (.ref b1)])) rfl (by rw [hml]; rfl) (Steps.refl _) (argsL := []) (rest := [(.int (1 : Int32)), (.ref b1)]) (lenOf pd_rm5_0_0 rfl) rfl (by show 2 * 0 + _ ≤ _; exact Nat.le_of_eq rfl) (hb hby d5_19) (fun _ _ => ⟨rfl, e5, (by decide : 0 + 0 ≤ _), (by decide : 0 + 0 ≤ _)⟩)
  dsimp only [Pt.U, Pt.locs, Pt.cells, Pt.slots] at X6 l6 y6 z6 st6 hQ6
  subst l6 y6 z6
  obtain ⟨rfl, N6q, e6q⟩ := hQ6
  have N6 := Fr.app N2 N6q
  have Va_10 : Arv Z h2 b1 k1 .double (3 : Int32) [(.double x0), (.double x1), (.double x2)] (.double (FP.l2d 0)) := (V_weights.other W2 (Ne.symm ne_a0_b1))
  obtain ⟨cl11, Ar11, q11, S11, N11', H11, G11⟩ := id Va_10
  have hin11 : ¬ ((1 : Int32) < 0 ∨ cl11.slots.size ≤ ((1 : Int32)).toNatClampNeg) := inb_of S11 ⟨by decide, by decide⟩
  obtain ⟨T12, h12, X12, e12, W12, st12⟩ := stD X6 hx hZ e6q Ar11 (j := (1 : Int32)) hin11 (g := (mkF m 22 #[.val (.ref a0), .val (.ref a1)] [(.double d1), (.int (1 : Int32)), (.ref b1)])) rfl rfl (hb hby d5_22)
  have Vs12 : Arv Z h12 b1 k1 .double (3 : Int32) [(.double x0), (.double d1), (.double x2)] (.double (FP.l2d 0)) := Arv.set Ar11 q11 S11 N11' H11 G11 rfl W12 1 rfl (Nat.le_of_ble_eq_true rfl)
  have N12 := Fr.snoc X12 N6 g_b1
  have Ff_13 : Fld Z h12 a0 "com/example/stochist/stochist/histogram/WeightedPoints" "values" "[D" (.ref b2) := ((F_values.other W2 (Or.inr (slot_ne (Or.inr (hw _ (List.mem_of_getElem? (i := 33) rfl))) (Or.inl (hw _ (List.mem_of_getElem? (i := 42) rfl))) (by decide) (t := (.array .double)) (t' := .int) (by decide) (by decide)))).other W12 (Or.inl ne_a0_b1))
  obtain ⟨T14, X14, e14, st14⟩ := getF X12 hx hZ hown (host := "") (Or.inl (hw _ (List.mem_of_getElem? (i := 32) rfl))) Via.refl e12 Ff_13 (g := (mkF m 24 #[.val (.ref a0), .val (.ref a1)] [(.ref a0)])) rfl rfl (hb hby d5_24)
  have Ff_15 : Fld Z h12 a0 "com/example/stochist/stochist/histogram/WeightedPoints" "size" "I" (.int (1 : Int32)) := (Fw2.other W12 (Or.inl ne_a0_b1))
  obtain ⟨T16, X16, e16, st16⟩ := getF X14 hx hZ hown (host := "") (Or.inl (hw _ (List.mem_of_getElem? (i := 41) rfl))) Via.refl e14 Ff_15 (g := (mkF m 28 #[.val (.ref a0), .val (.ref a1)] [(.ref a0), (.ref b2)])) rfl rfl (hb hby d5_28)
  have Zz_18 : n0 ≤ h12.size := (Nat.le_trans Zz_7 (Keep.of_wr W12).1)
  have Ff_19 : Fld Z h12 a1 "com/example/stochist/stochist/histogram/WeightedPoints$Point" "value" "D" (.double d2) := ((P_values.other W2 (Or.inl (Ne.symm ne_a0_a1))).other W12 (Or.inl ne_a1_b1))
  have Ee_20 : Exa Z h12 a1 "com/example/stochist/stochist/histogram/WeightedPoints$Point" := (Ee_9.wr W12)
  obtain ⟨cq17, kq17, q17a, q17b, q17c⟩ := isOf hZ e16 (Ee_20)
  obtain ⟨_, _, ⟨T17, L17, k17, n17⟩, -, X17, ⟨Lc17, hQ17, l17, y17, z17⟩, st17⟩ := X16.virtualBack hx (y := (⟨"com/example/stochist/stochist/histogram/WeightedPoints$Point", "value", "()D"⟩ : MethodName)) (z := (⟨"com/example/stochist/stochist/histogram/WeightedPoints$Point", "value", "()D"⟩ : MethodName)) hown (mvT hZ (hw _ (List.mem_of_getElem? (i := 48) rfl))) (mvT hZ (hw _ (List.mem_of_getElem? (i := 49) rfl))) (notFace_of_selects (args := #[]) (mvT hZ (hw _ (List.mem_of_getElem? (i := 51) rfl)))) (mvT hZ (hw _ (List.mem_of_getElem? (i := 51) rfl))) (mvT hZ (hw _ (List.mem_of_getElem? (i := 50) rfl))) (by decide) (backOf (W := 2) (rm7 l Z aw hw [] a1 d2 h12 n0 Zz_18 Ff_19) hZ (hw _ (List.mem_of_getElem? (i := 52) rfl)) (hw _ (List.mem_of_getElem? (i := 4) rfl)) (by decide) (by decide)) q17a q17c (g := (mkF m 32 #[.val (.ref a0), .val (.ref a1)] [(.ref a1), (.int (1 : Int32)), (.ref b2)])) rfl (by rw [hml]; rfl) (Steps.refl _) (argsL := []) (rest := [(.int (1 : Int32)), (.ref b2)]) (lenOf pd_rm5_0_0 rfl) rfl (by show 2 * 0 + _ ≤ _; exact Nat.le_of_eq rfl) (hb hby d5_32) (fun _ _ => ⟨rfl, e16, (by decide : 0 + 0 ≤ _), (by decide : 0 + 0 ≤ _)⟩)
  dsimp only [Pt.U, Pt.locs, Pt.cells, Pt.slots] at X17 l17 y17 z17 st17 hQ17
  subst l17 y17 z17
  obtain ⟨rfl, N17q, e17q⟩ := hQ17
  have N17 := Fr.app N12 N17q
  have Va_21 : Arv Z h12 b2 k2 .double (3 : Int32) [(.double y0), (.double y1), (.double y2)] (.double (FP.l2d 0)) := ((V_values.other W2 (Ne.symm ne_a0_b2)).other W12 (Ne.symm ne_b1_b2))
  obtain ⟨cl22, Ar22, q22, S22, N22', H22, G22⟩ := id Va_21
  have hin22 : ¬ ((1 : Int32) < 0 ∨ cl22.slots.size ≤ ((1 : Int32)).toNatClampNeg) := inb_of S22 ⟨by decide, by decide⟩
  obtain ⟨T23, h23, X23, e23, W23, st23⟩ := stD X17 hx hZ e17q Ar22 (j := (1 : Int32)) hin22 (g := (mkF m 35 #[.val (.ref a0), .val (.ref a1)] [(.double d2), (.int (1 : Int32)), (.ref b2)])) rfl rfl (hb hby d5_35)
  have Vs23 : Arv Z h23 b2 k2 .double (3 : Int32) [(.double y0), (.double d2), (.double y2)] (.double (FP.l2d 0)) := Arv.set Ar22 q22 S22 N22' H22 G22 rfl W23 1 rfl (Nat.le_of_ble_eq_true rfl)
  have N23 := Fr.snoc X23 N17 g_b2
  have Ff_24 : Fld Z h23 a0 "com/example/stochist/stochist/histogram/WeightedPoints" "errors" "[D" (.ref b3) := (((F_errors.other W2 (Or.inr (slot_ne (Or.inr (hw _ (List.mem_of_getElem? (i := 35) rfl))) (Or.inl (hw _ (List.mem_of_getElem? (i := 42) rfl))) (by decide) (t := (.array .double)) (t' := .int) (by decide) (by decide)))).other W12 (Or.inl ne_a0_b1)).other W23 (Or.inl ne_a0_b2))
  obtain ⟨T25, X25, e25, st25⟩ := getF X23 hx hZ hown (host := "") (Or.inl (hw _ (List.mem_of_getElem? (i := 34) rfl))) Via.refl e23 Ff_24 (g := (mkF m 37 #[.val (.ref a0), .val (.ref a1)] [(.ref a0)])) rfl rfl (hb hby d5_37)
  have Ff_26 : Fld Z h23 a0 "com/example/stochist/stochist/histogram/WeightedPoints" "size" "I" (.int (1 : Int32)) := (Ff_15.other W23 (Or.inl ne_a0_b2))
  obtain ⟨T27, X27, e27, st27⟩ := getF X25 hx hZ hown (host := "") (Or.inl (hw _ (List.mem_of_getElem? (i := 41) rfl))) Via.refl e25 Ff_26 (g := (mkF m 41 #[.val (.ref a0), .val (.ref a1)] [(.ref a0), (.ref b3)])) rfl rfl (hb hby d5_41)
  have Zz_29 : n0 ≤ h23.size := (Nat.le_trans Zz_18 (Keep.of_wr W23).1)
  have Ff_30 : Fld Z h23 a1 "com/example/stochist/stochist/histogram/WeightedPoints$Point" "error" "D" (.double d3) := (((P_errors.other W2 (Or.inl (Ne.symm ne_a0_a1))).other W12 (Or.inl ne_a1_b1)).other W23 (Or.inl ne_a1_b2))
  have Ee_31 : Exa Z h23 a1 "com/example/stochist/stochist/histogram/WeightedPoints$Point" := (Ee_20.wr W23)
  obtain ⟨cq28, kq28, q28a, q28b, q28c⟩ := isOf hZ e27 (Ee_31)
  obtain ⟨_, _, ⟨T28, L28, k28, n28⟩, -, X28, ⟨Lc28, hQ28, l28, y28, z28⟩, st28⟩ := X27.virtualBack hx (y := (⟨"com/example/stochist/stochist/histogram/WeightedPoints$Point", "error", "()D"⟩ : MethodName)) (z := (⟨"com/example/stochist/stochist/histogram/WeightedPoints$Point", "error", "()D"⟩ : MethodName)) hown (mvT hZ (hw _ (List.mem_of_getElem? (i := 53) rfl))) (mvT hZ (hw _ (List.mem_of_getElem? (i := 54) rfl))) (notFace_of_selects (args := #[]) (mvT hZ (hw _ (List.mem_of_getElem? (i := 56) rfl)))) (mvT hZ (hw _ (List.mem_of_getElem? (i := 56) rfl))) (mvT hZ (hw _ (List.mem_of_getElem? (i := 55) rfl))) (by decide) (backOf (W := 2) (rm8 l Z aw hw [] a1 d3 h23 n0 Zz_29 Ff_30) hZ (hw _ (List.mem_of_getElem? (i := 57) rfl)) (hw _ (List.mem_of_getElem? (i := 4) rfl)) (by decide) (by decide)) q28a q28c (g := (mkF m 45 #[.val (.ref a0), .val (.ref a1)] [(.ref a1), (.int (1 : Int32)), (.ref b3)])) rfl (by rw [hml]; rfl) (Steps.refl _) (argsL := []) (rest := [(.int (1 : Int32)), (.ref b3)]) (lenOf pd_rm5_0_0 rfl) rfl (by show 2 * 0 + _ ≤ _; exact Nat.le_of_eq rfl) (hb hby d5_45) (fun _ _ => ⟨rfl, e27, (by decide : 0 + 0 ≤ _), (by decide : 0 + 0 ≤ _)⟩)
  dsimp only [Pt.U, Pt.locs, Pt.cells, Pt.slots] at X28 l28 y28 z28 st28 hQ28
  subst l28 y28 z28
  obtain ⟨rfl, N28q, e28q⟩ := hQ28
  have N28 := Fr.app N23 N28q
  have Va_32 : Arv Z h23 b3 k3 .double (3 : Int32) [(.double z0), (.double z1), (.double z2)] (.double (FP.l2d 0)) := (((V_errors.other W2 (Ne.symm ne_a0_b3)).other W12 (Ne.symm ne_b1_b3)).other W23 (Ne.symm ne_b2_b3))
  obtain ⟨cl33, Ar33, q33, S33, N33', H33, G33⟩ := id Va_32
  have hin33 : ¬ ((1 : Int32) < 0 ∨ cl33.slots.size ≤ ((1 : Int32)).toNatClampNeg) := inb_of S33 ⟨by decide, by decide⟩
  obtain ⟨T34, h34, X34, e34, W34, st34⟩ := stD X28 hx hZ e28q Ar33 (j := (1 : Int32)) hin33 (g := (mkF m 48 #[.val (.ref a0), .val (.ref a1)] [(.double d3), (.int (1 : Int32)), (.ref b3)])) rfl rfl (hb hby d5_48)
  have Vs34 : Arv Z h34 b3 k3 .double (3 : Int32) [(.double z0), (.double d3), (.double z2)] (.double (FP.l2d 0)) := Arv.set Ar33 q33 S33 N33' H33 G33 rfl W34 1 rfl (Nat.le_of_ble_eq_true rfl)
  have N34 := Fr.snoc X34 N28 g_b3
  have Kk_35 : Keep h0 h34 [a0, b1, b2, b3] := (((((Keep.refl h0 [a0, b1, b2, b3]).wr W2 (Or.inl (List.mem_of_getElem? (i := 0) rfl))).wr W12 (Or.inl (List.mem_of_getElem? (i := 1) rfl))).wr W23 (Or.inl (List.mem_of_getElem? (i := 2) rfl))).wr W34 (Or.inl (List.mem_of_getElem? (i := 3) rfl)))
  have Ff_36 : Fld Z h34 a0 "com/example/stochist/stochist/histogram/WeightedPoints" "size" "I" (.int (1 : Int32)) := (Ff_26.other W34 (Or.inl ne_a0_b3))
  have Ff_37 : Fld Z h34 a0 "com/example/stochist/stochist/histogram/WeightedPoints" "weights" "[D" (.ref b1) := (((Ff_3.other W12 (Or.inl ne_a0_b1)).other W23 (Or.inl ne_a0_b2)).other W34 (Or.inl ne_a0_b3))
  have Ff_38 : Fld Z h34 a0 "com/example/stochist/stochist/histogram/WeightedPoints" "values" "[D" (.ref b2) := ((Ff_13.other W23 (Or.inl ne_a0_b2)).other W34 (Or.inl ne_a0_b3))
  have Ff_39 : Fld Z h34 a0 "com/example/stochist/stochist/histogram/WeightedPoints" "errors" "[D" (.ref b3) := (Ff_24.other W34 (Or.inl ne_a0_b3))
  have Va_40 : Arv Z h34 b1 k1 .double (3 : Int32) [(.double x0), (.double d1), (.double x2)] (.double (FP.l2d 0)) := ((Vs12.other W23 ne_b1_b2).other W34 ne_b1_b3)
  have Va_41 : Arv Z h34 b2 k2 .double (3 : Int32) [(.double y0), (.double d2), (.double y2)] (.double (FP.l2d 0)) := (Vs23.other W34 ne_b2_b3)
  obtain ⟨fs, hr, hrun, hended, hW, hsame⟩ := X34.leave (v := none) (fun _ => rfl)
  refine ⟨_, _, pre0 _ ?_, hrun, hended, _, _, rfl, ?_, ⟨_, rfl⟩, hW, hsame.mono (by decide) (by decide)⟩
  · show Steps p.tables e below (s₁.setTop (mkF m 0 #[.val (.ref a0), .val (.ref a1)] [])) _
    refine XS.aloadN X0.here hx rfl (hb hby d5_0) rfl rfl ?_
    show Steps p.tables e below (s₁.setTop (mkF m 1 #[.val (.ref a0), .val (.ref a1)] [(.ref a0)])) _
    refine XS.dup X0.here hx rfl (hb hby d5_1) rfl rfl ?_
    show Steps p.tables e below (s₁.setTop (mkF m 2 #[.val (.ref a0), .val (.ref a1)] [(.ref a0), (.ref a0)])) _
    refine st1 _ ?_
    show Steps p.tables e below (T1.setTop (mkF m 5 #[.val (.ref a0), .val (.ref a1)] [(.int (0 : Int32)), (.ref a0)])) _
    refine XS.iconst X1.here hx rfl (hb hby d5_5) ?_
    show Steps p.tables e below (T1.setTop (mkF m 6 #[.val (.ref a0), .val (.ref a1)] [(.int (1 : Int32)), (.int (0 : Int32)), (.ref a0)])) _
    refine XS.iadd X1.here hx rfl (hb hby d5_6) rfl ?_
    rw [show ((0 : Int32) + (1 : Int32)) = (1 : Int32) from by decide]
    show Steps p.tables e below (T1.setTop (mkF m 7 #[.val (.ref a0), .val (.ref a1)] [(.int (1 : Int32)), (.ref a0)])) _
    refine st2 _ ?_
    show Steps p.tables e below (T2.setTop (mkF m 10 #[.val (.ref a0), .val (.ref a1)] [])) _
    refine XS.aloadN X2.here hx rfl (hb hby d5_10) rfl rfl ?_
    show Steps p.tables e below (T2.setTop (mkF m 11 #[.val (.ref a0), .val (.ref a1)] [(.ref a0)])) _
    refine st4 _ ?_
    show Steps p.tables e below (T4.setTop (mkF m 14 #[.val (.ref a0), .val (.ref a1)] [(.ref b1)])) _
    refine XS.aloadN X4.here hx rfl (hb hby d5_14) rfl rfl ?_
    show Steps p.tables e below (T4.setTop (mkF m 15 #[.val (.ref a0), .val (.ref a1)] [(.ref a0), (.ref b1)])) _
    refine st5 _ ?_
    show Steps p.tables e below (T5.setTop (mkF m 18 #[.val (.ref a0), .val (.ref a1)] [(.int (1 : Int32)), (.ref b1)])) _
    refine XS.aloadN X5.here hx rfl (hb hby d5_18) rfl rfl ?_
    show Steps p.tables e below (T5.setTop (mkF m 19 #[.val (.ref a0), .val (.ref a1)] [(.ref a1), (.int (1 : Int32)), (.ref b1)])) _
    refine st6.trans ?_
    show Steps p.tables e below (T6.setTop (mkF m 22 #[.val (.ref a0), .val (.ref a1)] [(.double d1), (.int (1 : Int32)), (.ref b1)])) _
    refine st12 _ ?_
    show Steps p.tables e below (T12.setTop (mkF m 23 #[.val (.ref a0), .val (.ref a1)] [])) _
    refine XS.aloadN X12.here hx rfl (hb hby d5_23) rfl rfl ?_
    show Steps p.tables e below (T12.setTop (mkF m 24 #[.val (.ref a0), .val (.ref a1)] [(.ref a0)])) _
    refine st14 _ ?_
    show Steps p.tables e below (T14.setTop (mkF m 27 #[.val (.ref a0), .val (.ref a1)] [(.ref b2)])) _
    refine XS.aloadN X14.here hx rfl (hb hby d5_27) rfl rfl ?_
    show Steps p.tables e below (T14.setTop (mkF m 28 #[.val (.ref a0), .val (.ref a1)] [(.ref a0), (.ref b2)])) _
    refine st16 _ ?_
    show Steps p.tables e below (T16.setTop (mkF m 31 #[.val (.ref a0), .val (.ref a1)] [(.int (1 : Int32)), (.ref b2)])) _
    refine XS.aloadN X16.here hx rfl (hb hby d5_31) rfl rfl ?_
    show Steps p.tables e below (T16.setTop (mkF m 32 #[.val (.ref a0), .val (.ref a1)] [(.ref a1), (.int (1 : Int32)), (.ref b2)])) _
    refine st17.trans ?_
    show Steps p.tables e below (T17.setTop (mkF m 35 #[.val (.ref a0), .val (.ref a1)] [(.double d2), (.int (1 : Int32)), (.ref b2)])) _
    refine st23 _ ?_
    show Steps p.tables e below (T23.setTop (mkF m 36 #[.val (.ref a0), .val (.ref a1)] [])) _
    refine XS.aloadN X23.here hx rfl (hb hby d5_36) rfl rfl ?_
    show Steps p.tables e below (T23.setTop (mkF m 37 #[.val (.ref a0), .val (.ref a1)] [(.ref a0)])) _
    refine st25 _ ?_
    show Steps p.tables e below (T25.setTop (mkF m 40 #[.val (.ref a0), .val (.ref a1)] [(.ref b3)])) _
    refine XS.aloadN X25.here hx rfl (hb hby d5_40) rfl rfl ?_
    show Steps p.tables e below (T25.setTop (mkF m 41 #[.val (.ref a0), .val (.ref a1)] [(.ref a0), (.ref b3)])) _
    refine st27 _ ?_
    show Steps p.tables e below (T27.setTop (mkF m 44 #[.val (.ref a0), .val (.ref a1)] [(.int (1 : Int32)), (.ref b3)])) _
    refine XS.aloadN X27.here hx rfl (hb hby d5_44) rfl rfl ?_
    show Steps p.tables e below (T27.setTop (mkF m 45 #[.val (.ref a0), .val (.ref a1)] [(.ref a1), (.int (1 : Int32)), (.ref b3)])) _
    refine st28.trans ?_
    show Steps p.tables e below (T28.setTop (mkF m 48 #[.val (.ref a0), .val (.ref a1)] [(.double d3), (.int (1 : Int32)), (.ref b3)])) _
    refine st34 _ ?_
    show Steps p.tables e below (T34.setTop (mkF m 49 #[.val (.ref a0), .val (.ref a1)] [])) _
    exact X34.returnOut hx Bd.returns (hb hby d5_49) hr
  · show rm5_0Q Z a0 a1 b1 b2 b3 k1 k2 k3 d1 d2 d3 x0 x1 x2 y0 y1 y2 z0 z1 z2 h0 n0 _ T34.heap _
    rw [e34]
    exact ⟨rfl, N34, Kk_35, Ff_36, Ff_37, Ff_38, Ff_39, Va_40, Va_41, Vs34⟩
theorem pd_rm5_1_0 : parseMethodDescriptor "()D" = some ⟨[], some .double⟩ := by decide +kernel
theorem ef_rm5_1 (m : MethodId) (a0 : Addr) (a1 : Addr) : entryFrame m #[(.ref a0), (.ref a1)] 2 = mkF m 0 #[.val (.ref a0), .val (.ref a1)] [] := by first | (simp [entryFrame, mkF, argsToLocals, Value.category]; done) | rfl
def rm5_1Q (Z : State) (a0 a1 : Addr) (b1 b2 b3 : Addr) (k1 k2 k3 : ClassId) (d1 d2 d3 x0 x1 x2 y0 y1 y2 z0 z1 z2 : UInt64) (h0 : Heap) (n0 : Nat) (v : Option Value) (h : Heap) (L : List Loc) : Prop := v = none ∧ Fr n0 L ∧ Keep h0 h [a0, b1, b2, b3] ∧ Fld Z h a0 "com/example/stochist/stochist/histogram/WeightedPoints" "size" "I" (.int (2 : Int32)) ∧ Fld Z h a0 "com/example/stochist/stochist/histogram/WeightedPoints" "weights" "[D" (.ref b1) ∧ Fld Z h a0 "com/example/stochist/stochist/histogram/WeightedPoints" "values" "[D" (.ref b2) ∧ Fld Z h a0 "com/example/stochist/stochist/histogram/WeightedPoints" "errors" "[D" (.ref b3) ∧ Arv Z h b1 k1 .double (3 : Int32) [(.double x0), (.double x1), (.double d1)] (.double (FP.l2d 0)) ∧ Arv Z h b2 k2 .double (3 : Int32) [(.double y0), (.double y1), (.double d2)] (.double (FP.l2d 0)) ∧ Arv Z h b3 k3 .double (3 : Int32) [(.double z0), (.double z1), (.double d3)] (.double (FP.l2d 0))
set_option maxRecDepth 65536 in
set_option maxHeartbeats 40000000 in
theorem rm5_1 (l : Launch) (Z : State) (aw : Array Value) (hw : ∀ d ∈ tables_1, d.before aw Z = true) (ws : List Jvm.Cond) (a0 : Addr) (a1 : Addr) (b1 b2 b3 : Addr) (k1 k2 k3 : ClassId) (d1 d2 d3 x0 x1 x2 y0 y1 y2 z0 z1 z2 : UInt64) (h0 : Heap) (n0 : Nat) (Z0 : n0 ≤ h0.size) (E_a0 : Exa Z h0 a0 "com/example/stochist/stochist/histogram/WeightedPoints") (E_a1 : Exa Z h0 a1 "com/example/stochist/stochist/histogram/WeightedPoints$Point") (F_size : Fld Z h0 a0 "com/example/stochist/stochist/histogram/WeightedPoints" "size" "I" (.int (1 : Int32))) (F_weights : Fld Z h0 a0 "com/example/stochist/stochist/histogram/WeightedPoints" "weights" "[D" (.ref b1)) (F_values : Fld Z h0 a0 "com/example/stochist/stochist/histogram/WeightedPoints" "values" "[D" (.ref b2)) (F_errors : Fld Z h0 a0 "com/example/stochist/stochist/histogram/WeightedPoints" "errors" "[D" (.ref b3)) (P_weights : Fld Z h0 a1 "com/example/stochist/stochist/histogram/WeightedPoints$Point" "weight" "D" (.double d1)) (P_values : Fld Z h0 a1 "com/example/stochist/stochist/histogram/WeightedPoints$Point" "value" "D" (.double d2)) (P_errors : Fld Z h0 a1 "com/example/stochist/stochist/histogram/WeightedPoints$Point" "error" "D" (.double d3)) (V_weights : Arv Z h0 b1 k1 .double (3 : Int32) [(.double x0), (.double x1), (.double x2)] (.double (FP.l2d 0))) (V_values : Arv Z h0 b2 k2 .double (3 : Int32) [(.double y0), (.double y1), (.double y2)] (.double (FP.l2d 0))) (V_errors : Arv Z h0 b3 k3 .double (3 : Int32) [(.double z0), (.double z1), (.double z2)] (.double (FP.l2d 0))) (ne_a0_a1 : a0 ≠ a1) (ne_a0_b1 : a0 ≠ b1) (ne_a0_b2 : a0 ≠ b2) (ne_a0_b3 : a0 ≠ b3) (ne_a1_b1 : a1 ≠ b1) (ne_a1_b2 : a1 ≠ b2) (ne_a1_b3 : a1 ≠ b3) (ne_b1_b2 : b1 ≠ b2) (ne_b1_b3 : b1 ≠ b3) (ne_b2_b3 : b2 ≠ b3) (g_a0 : n0 ≤ a0) (g_b1 : n0 ≤ b1) (g_b2 : n0 ≤ b2) (g_b3 : n0 ≤ b3) :
    MetFree l (⟨"com/example/stochist/stochist/histogram/WeightedPoints", "add", "(Lcom/example/stochist/stochist/histogram/WeightedPoints$Point;)V"⟩ : MethodName) (head1 (Jvm.Cond.code (⟨"com/example/stochist/stochist/histogram/WeightedPoints", "add", "(Lcom/example/stochist/stochist/histogram/WeightedPoints$Point;)V"⟩ : MethodName) prog_23_method_3_code 2 none :: ws) ({ frames := 1, cells := 0, slots := 0, locals := 14 } : Room)) (fun a U => a = #[(.ref a0), (.ref a1)] ∧ Z.Warmed39 U.vm ∧ U.heap = h0) (fun _ _ _ _ _ => True) (fun _ U o U' => ∃ v L, o = .returned v ∧ rm5_1Q Z a0 a1 b1 b2 b3 k1 k2 k3 d1 d2 d3 x0 x1 x2 y0 y1 y2 z0 z1 z2 h0 n0 v U'.heap L ∧ FrameEnd U o U' L ({ frames := 1, cells := 0, slots := 0, locals := 14 } : Room).cells ({ frames := 1, cells := 0, slots := 0, locals := 14 } : Room).slots) := by
  refine MetFree.of_bodySF (plainFor_of_name pn_5) hisR ?_
  intro p e s m args below meth c s₁ Bd hml0 hP hK
  obtain ⟨rfl, hZ, hh⟩ := hP
  have hx := Bd.exec
  have hby := Bd.bytes
  have hml : c.maxLocals = 2 := hml0
  have hown : s.vm.findClass "com/example/stochist/stochist/histogram/WeightedPoints" = some m.cls := findClass_of_methodNamed Bd.named
  have hnm := (name_of_methodNamed Bd.named Bd.method).1
  have X0 : Stand p l e ({ frames := 1, cells := 0, slots := 0, locals := 14 } : Room) s m #[(.ref a0), (.ref a1)] below meth c s₁ [] 0 0 := Stand.of_body Bd
  have e0 : s₁.heap = h0 := by rw [← hh, Bd.state]; rfl
  have N0 := Fr.nil n0
  have pre0 : ∀ t, Steps p.tables e below (s₁.setTop (mkF m 0 #[.val (.ref a0), .val (.ref a1)] [])) t → Steps p.tables e below (s₁.setTop (entryFrame m #[(.ref a0), (.ref a1)] 2)) t := fun t k => castTop (ef_rm5_1 m a0 a1) k
  obtain ⟨T1, X1, e1, st1⟩ := getF X0 hx hZ hown (host := "") (Or.inl (hw _ (List.mem_of_getElem? (i := 41) rfl))) Via.refl e0 F_size (g := (mkF m 2 #[.val (.ref a0), .val (.ref a1)] [(.ref a0), (.ref a0)])) rfl rfl (hb hby d5_2)
  obtain ⟨T2, h2, X2, e2, W2, st2⟩ := putF X1 hx hZ hown (host := "") (Or.inl (hw _ (List.mem_of_getElem? (i := 41) rfl))) Via.refl e1 F_size E_a0 (Or.inl (hw _ (List.mem_of_getElem? (i := 42) rfl))) (hw _ (List.mem_of_getElem? (i := 23) rfl)) (ty := .int) (by decide) rfl rfl (g := (mkF m 7 #[.val (.ref a0), .val (.ref a1)] [(.int (2 : Int32)), (.ref a0)])) rfl rfl (hb hby d5_7)
  have Fw2 := Fld.same W2 F_size
  have N2 := Fr.snoc X2 N0 g_a0
  have Ff_3 : Fld Z h2 a0 "com/example/stochist/stochist/histogram/WeightedPoints" "weights" "[D" (.ref b1) := (F_weights.other W2 (Or.inr (slot_ne (Or.inr (hw _ (List.mem_of_getElem? (i := 31) rfl))) (Or.inl (hw _ (List.mem_of_getElem? (i := 42) rfl))) (by decide) (t := (.array .double)) (t' := .int) (by decide) (by decide))))
  obtain ⟨T4, X4, e4, st4⟩ := getF X2 hx hZ hown (host := "") (Or.inl (hw _ (List.mem_of_getElem? (i := 30) rfl))) Via.refl e2 Ff_3 (g := (mkF m 11 #[.val (.ref a0), .val (.ref a1)] [(.ref a0)])) rfl rfl (hb hby d5_11)
  obtain ⟨T5, X5, e5, st5⟩ := getF X4 hx hZ hown (host := "") (Or.inl (hw _ (List.mem_of_getElem? (i := 41) rfl))) Via.refl e4 Fw2 (g := (mkF m 15 #[.val (.ref a0), .val (.ref a1)] [(.ref a0), (.ref b1)])) rfl rfl (hb hby d5_15)
  have Zz_7 : n0 ≤ h2.size := (Nat.le_trans Z0 (Keep.of_wr W2).1)
  have Ff_8 : Fld Z h2 a1 "com/example/stochist/stochist/histogram/WeightedPoints$Point" "weight" "D" (.double d1) := (P_weights.other W2 (Or.inl (Ne.symm ne_a0_a1)))
  have Ee_9 : Exa Z h2 a1 "com/example/stochist/stochist/histogram/WeightedPoints$Point" := (E_a1.wr W2)
  obtain ⟨cq6, kq6, q6a, q6b, q6c⟩ := isOf hZ e5 (Ee_9)
  obtain ⟨_, _, ⟨T6, L6, k6, n6⟩, -, X6, ⟨Lc6, hQ6, l6, y6, z6⟩, st6⟩ := X5.virtualBack hx (y := (⟨"com/example/stochist/stochist/histogram/WeightedPoints$Point", "weight", "()D"⟩ : MethodName)) (z := (⟨"com/example/stochist/stochist/histogram/WeightedPoints$Point", "weight", "()D"⟩ : MethodName)) hown (mvT hZ (hw _ (List.mem_of_getElem? (i := 43) rfl))) (mvT hZ (hw _ (List.mem_of_getElem? (i := 44) rfl))) (notFace_of_selects (args := #[]) (mvT hZ (hw _ (List.mem_of_getElem? (i := 46) rfl)))) (mvT hZ (hw _ (List.mem_of_getElem? (i := 46) rfl))) (mvT hZ (hw _ (List.mem_of_getElem? (i := 45) rfl))) (by decide) (backOf (W := 2) (rm6 l Z aw hw [] a1 d1 h2 n0 Zz_7 Ff_8) hZ (hw _ (List.mem_of_getElem? (i := 47) rfl)) (hw _ (List.mem_of_getElem? (i := 4) rfl)) (by decide) (by decide)) q6a q6c (g := (mkF m 19 #[.val (.ref a0), .val (.ref a1)] [(.ref a1), (.int (2 : Int32)), (.ref b1)])) rfl (by rw [hml]; rfl) (Steps.refl _) (argsL := []) (rest := [(.int (2 : Int32)), (.ref b1)]) (lenOf pd_rm5_1_0 rfl) rfl (by show 2 * 0 + _ ≤ _; exact Nat.le_of_eq rfl) (hb hby d5_19) (fun _ _ => ⟨rfl, e5, (by decide : 0 + 0 ≤ _), (by decide : 0 + 0 ≤ _)⟩)
  dsimp only [Pt.U, Pt.locs, Pt.cells, Pt.slots] at X6 l6 y6 z6 st6 hQ6
  subst l6 y6 z6
  obtain ⟨rfl, N6q, e6q⟩ := hQ6
  have N6 := Fr.app N2 N6q
  have Va_10 : Arv Z h2 b1 k1 .double (3 : Int32) [(.double x0), (.double x1), (.double x2)] (.double (FP.l2d 0)) := (V_weights.other W2 (Ne.symm ne_a0_b1))
  obtain ⟨cl11, Ar11, q11, S11, N11', H11, G11⟩ := id Va_10
  have hin11 : ¬ ((2 : Int32) < 0 ∨ cl11.slots.size ≤ ((2 : Int32)).toNatClampNeg) := inb_of S11 ⟨by decide, by decide⟩
  obtain ⟨T12, h12, X12, e12, W12, st12⟩ := stD X6 hx hZ e6q Ar11 (j := (2 : Int32)) hin11 (g := (mkF m 22 #[.val (.ref a0), .val (.ref a1)] [(.double d1), (.int (2 : Int32)), (.ref b1)])) rfl rfl (hb hby d5_22)
  have Vs12 : Arv Z h12 b1 k1 .double (3 : Int32) [(.double x0), (.double x1), (.double d1)] (.double (FP.l2d 0)) := Arv.set Ar11 q11 S11 N11' H11 G11 rfl W12 2 rfl (Nat.le_of_ble_eq_true rfl)
  have N12 := Fr.snoc X12 N6 g_b1
  have Ff_13 : Fld Z h12 a0 "com/example/stochist/stochist/histogram/WeightedPoints" "values" "[D" (.ref b2) := ((F_values.other W2 (Or.inr (slot_ne (Or.inr (hw _ (List.mem_of_getElem? (i := 33) rfl))) (Or.inl (hw _ (List.mem_of_getElem? (i := 42) rfl))) (by decide) (t := (.array .double)) (t' := .int) (by decide) (by decide)))).other W12 (Or.inl ne_a0_b1))
  obtain ⟨T14, X14, e14, st14⟩ := getF X12 hx hZ hown (host := "") (Or.inl (hw _ (List.mem_of_getElem? (i := 32) rfl))) Via.refl e12 Ff_13 (g := (mkF m 24 #[.val (.ref a0), .val (.ref a1)] [(.ref a0)])) rfl rfl (hb hby d5_24)
  have Ff_15 : Fld Z h12 a0 "com/example/stochist/stochist/histogram/WeightedPoints" "size" "I" (.int (2 : Int32)) := (Fw2.other W12 (Or.inl ne_a0_b1))
  obtain ⟨T16, X16, e16, st16⟩ := getF X14 hx hZ hown (host := "") (Or.inl (hw _ (List.mem_of_getElem? (i := 41) rfl))) Via.refl e14 Ff_15 (g := (mkF m 28 #[.val (.ref a0), .val (.ref a1)] [(.ref a0), (.ref b2)])) rfl rfl (hb hby d5_28)
  have Zz_18 : n0 ≤ h12.size := (Nat.le_trans Zz_7 (Keep.of_wr W12).1)
  have Ff_19 : Fld Z h12 a1 "com/example/stochist/stochist/histogram/WeightedPoints$Point" "value" "D" (.double d2) := ((P_values.other W2 (Or.inl (Ne.symm ne_a0_a1))).other W12 (Or.inl ne_a1_b1))
  have Ee_20 : Exa Z h12 a1 "com/example/stochist/stochist/histogram/WeightedPoints$Point" := (Ee_9.wr W12)
  obtain ⟨cq17, kq17, q17a, q17b, q17c⟩ := isOf hZ e16 (Ee_20)
  obtain ⟨_, _, ⟨T17, L17, k17, n17⟩, -, X17, ⟨Lc17, hQ17, l17, y17, z17⟩, st17⟩ := X16.virtualBack hx (y := (⟨"com/example/stochist/stochist/histogram/WeightedPoints$Point", "value", "()D"⟩ : MethodName)) (z := (⟨"com/example/stochist/stochist/histogram/WeightedPoints$Point", "value", "()D"⟩ : MethodName)) hown (mvT hZ (hw _ (List.mem_of_getElem? (i := 48) rfl))) (mvT hZ (hw _ (List.mem_of_getElem? (i := 49) rfl))) (notFace_of_selects (args := #[]) (mvT hZ (hw _ (List.mem_of_getElem? (i := 51) rfl)))) (mvT hZ (hw _ (List.mem_of_getElem? (i := 51) rfl))) (mvT hZ (hw _ (List.mem_of_getElem? (i := 50) rfl))) (by decide) (backOf (W := 2) (rm7 l Z aw hw [] a1 d2 h12 n0 Zz_18 Ff_19) hZ (hw _ (List.mem_of_getElem? (i := 52) rfl)) (hw _ (List.mem_of_getElem? (i := 4) rfl)) (by decide) (by decide)) q17a q17c (g := (mkF m 32 #[.val (.ref a0), .val (.ref a1)] [(.ref a1), (.int (2 : Int32)), (.ref b2)])) rfl (by rw [hml]; rfl) (Steps.refl _) (argsL := []) (rest := [(.int (2 : Int32)), (.ref b2)]) (lenOf pd_rm5_1_0 rfl) rfl (by show 2 * 0 + _ ≤ _; exact Nat.le_of_eq rfl) (hb hby d5_32) (fun _ _ => ⟨rfl, e16, (by decide : 0 + 0 ≤ _), (by decide : 0 + 0 ≤ _)⟩)
  dsimp only [Pt.U, Pt.locs, Pt.cells, Pt.slots] at X17 l17 y17 z17 st17 hQ17
  subst l17 y17 z17
  obtain ⟨rfl, N17q, e17q⟩ := hQ17
  have N17 := Fr.app N12 N17q
  have Va_21 : Arv Z h12 b2 k2 .double (3 : Int32) [(.double y0), (.double y1), (.double y2)] (.double (FP.l2d 0)) := ((V_values.other W2 (Ne.symm ne_a0_b2)).other W12 (Ne.symm ne_b1_b2))
  obtain ⟨cl22, Ar22, q22, S22, N22', H22, G22⟩ := id Va_21
  have hin22 : ¬ ((2 : Int32) < 0 ∨ cl22.slots.size ≤ ((2 : Int32)).toNatClampNeg) := inb_of S22 ⟨by decide, by decide⟩
  obtain ⟨T23, h23, X23, e23, W23, st23⟩ := stD X17 hx hZ e17q Ar22 (j := (2 : Int32)) hin22 (g := (mkF m 35 #[.val (.ref a0), .val (.ref a1)] [(.double d2), (.int (2 : Int32)), (.ref b2)])) rfl rfl (hb hby d5_35)
  have Vs23 : Arv Z h23 b2 k2 .double (3 : Int32) [(.double y0), (.double y1), (.double d2)] (.double (FP.l2d 0)) := Arv.set Ar22 q22 S22 N22' H22 G22 rfl W23 2 rfl (Nat.le_of_ble_eq_true rfl)
  have N23 := Fr.snoc X23 N17 g_b2
  have Ff_24 : Fld Z h23 a0 "com/example/stochist/stochist/histogram/WeightedPoints" "errors" "[D" (.ref b3) := (((F_errors.other W2 (Or.inr (slot_ne (Or.inr (hw _ (List.mem_of_getElem? (i := 35) rfl))) (Or.inl (hw _ (List.mem_of_getElem? (i := 42) rfl))) (by decide) (t := (.array .double)) (t' := .int) (by decide) (by decide)))).other W12 (Or.inl ne_a0_b1)).other W23 (Or.inl ne_a0_b2))
  obtain ⟨T25, X25, e25, st25⟩ := getF X23 hx hZ hown (host := "") (Or.inl (hw _ (List.mem_of_getElem? (i := 34) rfl))) Via.refl e23 Ff_24 (g := (mkF m 37 #[.val (.ref a0), .val (.ref a1)] [(.ref a0)])) rfl rfl (hb hby d5_37)
  have Ff_26 : Fld Z h23 a0 "com/example/stochist/stochist/histogram/WeightedPoints" "size" "I" (.int (2 : Int32)) := (Ff_15.other W23 (Or.inl ne_a0_b2))
  obtain ⟨T27, X27, e27, st27⟩ := getF X25 hx hZ hown (host := "") (Or.inl (hw _ (List.mem_of_getElem? (i := 41) rfl))) Via.refl e25 Ff_26 (g := (mkF m 41 #[.val (.ref a0), .val (.ref a1)] [(.ref a0), (.ref b3)])) rfl rfl (hb hby d5_41)
  have Zz_29 : n0 ≤ h23.size := (Nat.le_trans Zz_18 (Keep.of_wr W23).1)
  have Ff_30 : Fld Z h23 a1 "com/example/stochist/stochist/histogram/WeightedPoints$Point" "error" "D" (.double d3) := (((P_errors.other W2 (Or.inl (Ne.symm ne_a0_a1))).other W12 (Or.inl ne_a1_b1)).other W23 (Or.inl ne_a1_b2))
  have Ee_31 : Exa Z h23 a1 "com/example/stochist/stochist/histogram/WeightedPoints$Point" := (Ee_20.wr W23)
  obtain ⟨cq28, kq28, q28a, q28b, q28c⟩ := isOf hZ e27 (Ee_31)
  obtain ⟨_, _, ⟨T28, L28, k28, n28⟩, -, X28, ⟨Lc28, hQ28, l28, y28, z28⟩, st28⟩ := X27.virtualBack hx (y := (⟨"com/example/stochist/stochist/histogram/WeightedPoints$Point", "error", "()D"⟩ : MethodName)) (z := (⟨"com/example/stochist/stochist/histogram/WeightedPoints$Point", "error", "()D"⟩ : MethodName)) hown (mvT hZ (hw _ (List.mem_of_getElem? (i := 53) rfl))) (mvT hZ (hw _ (List.mem_of_getElem? (i := 54) rfl))) (notFace_of_selects (args := #[]) (mvT hZ (hw _ (List.mem_of_getElem? (i := 56) rfl)))) (mvT hZ (hw _ (List.mem_of_getElem? (i := 56) rfl))) (mvT hZ (hw _ (List.mem_of_getElem? (i := 55) rfl))) (by decide) (backOf (W := 2) (rm8 l Z aw hw [] a1 d3 h23 n0 Zz_29 Ff_30) hZ (hw _ (List.mem_of_getElem? (i := 57) rfl)) (hw _ (List.mem_of_getElem? (i := 4) rfl)) (by decide) (by decide)) q28a q28c (g := (mkF m 45 #[.val (.ref a0), .val (.ref a1)] [(.ref a1), (.int (2 : Int32)), (.ref b3)])) rfl (by rw [hml]; rfl) (Steps.refl _) (argsL := []) (rest := [(.int (2 : Int32)), (.ref b3)]) (lenOf pd_rm5_1_0 rfl) rfl (by show 2 * 0 + _ ≤ _; exact Nat.le_of_eq rfl) (hb hby d5_45) (fun _ _ => ⟨rfl, e27, (by decide : 0 + 0 ≤ _), (by decide : 0 + 0 ≤ _)⟩)
  dsimp only [Pt.U, Pt.locs, Pt.cells, Pt.slots] at X28 l28 y28 z28 st28 hQ28
  subst l28 y28 z28
  obtain ⟨rfl, N28q, e28q⟩ := hQ28
  have N28 := Fr.app N23 N28q
  have Va_32 : Arv Z h23 b3 k3 .double (3 : Int32) [(.double z0), (.double z1), (.double z2)] (.double (FP.l2d 0)) := (((V_errors.other W2 (Ne.symm ne_a0_b3)).other W12 (Ne.symm ne_b1_b3)).other W23 (Ne.symm ne_b2_b3))
  obtain ⟨cl33, Ar33, q33, S33, N33', H33, G33⟩ := id Va_32
  have hin33 : ¬ ((2 : Int32) < 0 ∨ cl33.slots.size ≤ ((2 : Int32)).toNatClampNeg) := inb_of S33 ⟨by decide, by decide⟩
  obtain ⟨T34, h34, X34, e34, W34, st34⟩ := stD X28 hx hZ e28q Ar33 (j := (2 : Int32)) hin33 (g := (mkF m 48 #[.val (.ref a0), .val (.ref a1)] [(.double d3), (.int (2 : Int32)), (.ref b3)])) rfl rfl (hb hby d5_48)
  have Vs34 : Arv Z h34 b3 k3 .double (3 : Int32) [(.double z0), (.double z1), (.double d3)] (.double (FP.l2d 0)) := Arv.set Ar33 q33 S33 N33' H33 G33 rfl W34 2 rfl (Nat.le_of_ble_eq_true rfl)
  have N34 := Fr.snoc X34 N28 g_b3
  have Kk_35 : Keep h0 h34 [a0, b1, b2, b3] := (((((Keep.refl h0 [a0, b1, b2, b3]).wr W2 (Or.inl (List.mem_of_getElem? (i := 0) rfl))).wr W12 (Or.inl (List.mem_of_getElem? (i := 1) rfl))).wr W23 (Or.inl (List.mem_of_getElem? (i := 2) rfl))).wr W34 (Or.inl (List.mem_of_getElem? (i := 3) rfl)))
  have Ff_36 : Fld Z h34 a0 "com/example/stochist/stochist/histogram/WeightedPoints" "size" "I" (.int (2 : Int32)) := (Ff_26.other W34 (Or.inl ne_a0_b3))
  have Ff_37 : Fld Z h34 a0 "com/example/stochist/stochist/histogram/WeightedPoints" "weights" "[D" (.ref b1) := (((Ff_3.other W12 (Or.inl ne_a0_b1)).other W23 (Or.inl ne_a0_b2)).other W34 (Or.inl ne_a0_b3))
  have Ff_38 : Fld Z h34 a0 "com/example/stochist/stochist/histogram/WeightedPoints" "values" "[D" (.ref b2) := ((Ff_13.other W23 (Or.inl ne_a0_b2)).other W34 (Or.inl ne_a0_b3))
  have Ff_39 : Fld Z h34 a0 "com/example/stochist/stochist/histogram/WeightedPoints" "errors" "[D" (.ref b3) := (Ff_24.other W34 (Or.inl ne_a0_b3))
  have Va_40 : Arv Z h34 b1 k1 .double (3 : Int32) [(.double x0), (.double x1), (.double d1)] (.double (FP.l2d 0)) := ((Vs12.other W23 ne_b1_b2).other W34 ne_b1_b3)
  have Va_41 : Arv Z h34 b2 k2 .double (3 : Int32) [(.double y0), (.double y1), (.double d2)] (.double (FP.l2d 0)) := (Vs23.other W34 ne_b2_b3)
  obtain ⟨fs, hr, hrun, hended, hW, hsame⟩ := X34.leave (v := none) (fun _ => rfl)
  refine ⟨_, _, pre0 _ ?_, hrun, hended, _, _, rfl, ?_, ⟨_, rfl⟩, hW, hsame.mono (by decide) (by decide)⟩
  · show Steps p.tables e below (s₁.setTop (mkF m 0 #[.val (.ref a0), .val (.ref a1)] [])) _
    refine XS.aloadN X0.here hx rfl (hb hby d5_0) rfl rfl ?_
    show Steps p.tables e below (s₁.setTop (mkF m 1 #[.val (.ref a0), .val (.ref a1)] [(.ref a0)])) _
    refine XS.dup X0.here hx rfl (hb hby d5_1) rfl rfl ?_
    show Steps p.tables e below (s₁.setTop (mkF m 2 #[.val (.ref a0), .val (.ref a1)] [(.ref a0), (.ref a0)])) _
    refine st1 _ ?_
    show Steps p.tables e below (T1.setTop (mkF m 5 #[.val (.ref a0), .val (.ref a1)] [(.int (1 : Int32)), (.ref a0)])) _
    refine XS.iconst X1.here hx rfl (hb hby d5_5) ?_
    show Steps p.tables e below (T1.setTop (mkF m 6 #[.val (.ref a0), .val (.ref a1)] [(.int (1 : Int32)), (.int (1 : Int32)), (.ref a0)])) _
    refine XS.iadd X1.here hx rfl (hb hby d5_6) rfl ?_
    rw [show ((1 : Int32) + (1 : Int32)) = (2 : Int32) from by decide]
    show Steps p.tables e below (T1.setTop (mkF m 7 #[.val (.ref a0), .val (.ref a1)] [(.int (2 : Int32)), (.ref a0)])) _
    refine st2 _ ?_
    show Steps p.tables e below (T2.setTop (mkF m 10 #[.val (.ref a0), .val (.ref a1)] [])) _
    refine XS.aloadN X2.here hx rfl (hb hby d5_10) rfl rfl ?_
    show Steps p.tables e below (T2.setTop (mkF m 11 #[.val (.ref a0), .val (.ref a1)] [(.ref a0)])) _
    refine st4 _ ?_
    show Steps p.tables e below (T4.setTop (mkF m 14 #[.val (.ref a0), .val (.ref a1)] [(.ref b1)])) _
    refine XS.aloadN X4.here hx rfl (hb hby d5_14) rfl rfl ?_
    show Steps p.tables e below (T4.setTop (mkF m 15 #[.val (.ref a0), .val (.ref a1)] [(.ref a0), (.ref b1)])) _
    refine st5 _ ?_
    show Steps p.tables e below (T5.setTop (mkF m 18 #[.val (.ref a0), .val (.ref a1)] [(.int (2 : Int32)), (.ref b1)])) _
    refine XS.aloadN X5.here hx rfl (hb hby d5_18) rfl rfl ?_
    show Steps p.tables e below (T5.setTop (mkF m 19 #[.val (.ref a0), .val (.ref a1)] [(.ref a1), (.int (2 : Int32)), (.ref b1)])) _
    refine st6.trans ?_
    show Steps p.tables e below (T6.setTop (mkF m 22 #[.val (.ref a0), .val (.ref a1)] [(.double d1), (.int (2 : Int32)), (.ref b1)])) _
    refine st12 _ ?_
    show Steps p.tables e below (T12.setTop (mkF m 23 #[.val (.ref a0), .val (.ref a1)] [])) _
    refine XS.aloadN X12.here hx rfl (hb hby d5_23) rfl rfl ?_
    show Steps p.tables e below (T12.setTop (mkF m 24 #[.val (.ref a0), .val (.ref a1)] [(.ref a0)])) _
    refine st14 _ ?_
    show Steps p.tables e below (T14.setTop (mkF m 27 #[.val (.ref a0), .val (.ref a1)] [(.ref b2)])) _
    refine XS.aloadN X14.here hx rfl (hb hby d5_27) rfl rfl ?_
    show Steps p.tables e below (T14.setTop (mkF m 28 #[.val (.ref a0), .val (.ref a1)] [(.ref a0), (.ref b2)])) _
    refine st16 _ ?_
    show Steps p.tables e below (T16.setTop (mkF m 31 #[.val (.ref a0), .val (.ref a1)] [(.int (2 : Int32)), (.ref b2)])) _
    refine XS.aloadN X16.here hx rfl (hb hby d5_31) rfl rfl ?_
    show Steps p.tables e below (T16.setTop (mkF m 32 #[.val (.ref a0), .val (.ref a1)] [(.ref a1), (.int (2 : Int32)), (.ref b2)])) _
    refine st17.trans ?_
    show Steps p.tables e below (T17.setTop (mkF m 35 #[.val (.ref a0), .val (.ref a1)] [(.double d2), (.int (2 : Int32)), (.ref b2)])) _
    refine st23 _ ?_
    show Steps p.tables e below (T23.setTop (mkF m 36 #[.val (.ref a0), .val (.ref a1)] [])) _
    refine XS.aloadN X23.here hx rfl (hb hby d5_36) rfl rfl ?_
    show Steps p.tables e below (T23.setTop (mkF m 37 #[.val (.ref a0), .val (.ref a1)] [(.ref a0)])) _
    refine st25 _ ?_
    show Steps p.tables e below (T25.setTop (mkF m 40 #[.val (.ref a0), .val (.ref a1)] [(.ref b3)])) _
    refine XS.aloadN X25.here hx rfl (hb hby d5_40) rfl rfl ?_
    show Steps p.tables e below (T25.setTop (mkF m 41 #[.val (.ref a0), .val (.ref a1)] [(.ref a0), (.ref b3)])) _
    refine st27 _ ?_
    show Steps p.tables e below (T27.setTop (mkF m 44 #[.val (.ref a0), .val (.ref a1)] [(.int (2 : Int32)), (.ref b3)])) _
    refine XS.aloadN X27.here hx rfl (hb hby d5_44) rfl rfl ?_
    show Steps p.tables e below (T27.setTop (mkF m 45 #[.val (.ref a0), .val (.ref a1)] [(.ref a1), (.int (2 : Int32)), (.ref b3)])) _
    refine st28.trans ?_
    show Steps p.tables e below (T28.setTop (mkF m 48 #[.val (.ref a0), .val (.ref a1)] [(.double d3), (.int (2 : Int32)), (.ref b3)])) _
    refine st34 _ ?_
    show Steps p.tables e below (T34.setTop (mkF m 49 #[.val (.ref a0), .val (.ref a1)] [])) _
    exact X34.returnOut hx Bd.returns (hb hby d5_49) hr
  · show rm5_1Q Z a0 a1 b1 b2 b3 k1 k2 k3 d1 d2 d3 x0 x1 x2 y0 y1 y2 z0 z1 z2 h0 n0 _ T34.heap _
    rw [e34]
    exact ⟨rfl, N34, Kk_35, Ff_36, Ff_37, Ff_38, Ff_39, Va_40, Va_41, Vs34⟩
theorem d9_0 : decode prog_23_method_6_code 0 = .ok (.aload_n 0, 1) := by decide +kernel
theorem d9_1 : decode prog_23_method_6_code 1 = .ok (.getfield 18, 3) := by decide +kernel
theorem d9_4 : decode prog_23_method_6_code 4 = .ok (.iload_n 1, 1) := by decide +kernel
theorem d9_5 : decode prog_23_method_6_code 5 = .ok (.daload, 1) := by decide +kernel
theorem d9_6 : decode prog_23_method_6_code 6 = .ok (.aload_n 0, 1) := by decide +kernel
theorem d9_7 : decode prog_23_method_6_code 7 = .ok (.getfield 9, 3) := by decide +kernel
theorem d9_10 : decode prog_23_method_6_code 10 = .ok (.iload_n 1, 1) := by decide +kernel
theorem d9_11 : decode prog_23_method_6_code 11 = .ok (.daload, 1) := by decide +kernel
theorem d9_12 : decode prog_23_method_6_code 12 = .ok (.aload_n 0, 1) := by decide +kernel
theorem d9_13 : decode prog_23_method_6_code 13 = .ok (.getfield 15, 3) := by decide +kernel
theorem d9_16 : decode prog_23_method_6_code 16 = .ok (.iload_n 1, 1) := by decide +kernel
theorem d9_17 : decode prog_23_method_6_code 17 = .ok (.daload, 1) := by decide +kernel
theorem d9_18 : decode prog_23_method_6_code 18 = .ok (.dmul, 1) := by decide +kernel
theorem d9_19 : decode prog_23_method_6_code 19 = .ok (.aload_n 0, 1) := by decide +kernel
theorem d9_20 : decode prog_23_method_6_code 20 = .ok (.getfield 15, 3) := by decide +kernel
theorem d9_23 : decode prog_23_method_6_code 23 = .ok (.iload_n 1, 1) := by decide +kernel
theorem d9_24 : decode prog_23_method_6_code 24 = .ok (.daload, 1) := by decide +kernel
theorem d9_25 : decode prog_23_method_6_code 25 = .ok (.dmul, 1) := by decide +kernel
theorem d9_26 : decode prog_23_method_6_code 26 = .ok (.dadd, 1) := by decide +kernel
theorem d9_27 : decode prog_23_method_6_code 27 = .ok (.dreturn, 1) := by decide +kernel
theorem pn_9 : plainName "com/example/stochist/stochist/histogram/WeightedPoints" = true := by first | (simp [plainName, overriddenIn]; done) | decide +kernel
theorem ef_rm9_1 (m : MethodId) (a0 : Addr) : entryFrame m #[(.ref a0), (.int (1 : Int32))] 2 = mkF m 0 #[.val (.ref a0), .val (.int (1 : Int32))] [] := by first | (simp [entryFrame, mkF, argsToLocals, Value.category]; done) | rfl
def rm9_1Q (Z : State) (a0 : Addr) (w f e' : Int64) (h0 : Heap) (n0 : Nat) (v : Option Value) (h : Heap) (L : List Loc) : Prop := v = some (.double (FP.l2d (e' + ((w * f) * f)))) ∧ Fr n0 L ∧ h = h0
set_option maxRecDepth 65536 in
set_option maxHeartbeats 40000000 in
theorem rm9_1 (l : Launch) (Z : State) (aw : Array Value) (hw : ∀ d ∈ tables_1, d.before aw Z = true) (ws : List Jvm.Cond) (a0 : Addr) (w f e' : Int64) (b1 b2 b3 : Addr) (k1 k2 k3 : ClassId) (x0 x2 y0 y2 z0 z2 : UInt64) (h0 : Heap) (n0 : Nat) (Z0 : n0 ≤ h0.size) (F_weights : Fld Z h0 a0 "com/example/stochist/stochist/histogram/WeightedPoints" "weights" "[D" (.ref b1)) (F_values : Fld Z h0 a0 "com/example/stochist/stochist/histogram/WeightedPoints" "values" "[D" (.ref b2)) (F_errors : Fld Z h0 a0 "com/example/stochist/stochist/histogram/WeightedPoints" "errors" "[D" (.ref b3)) (V_weights : Arv Z h0 b1 k1 .double (3 : Int32) [(.double x0), (.double (FP.l2d w)), (.double x2)] (.double (FP.l2d 0))) (V_values : Arv Z h0 b2 k2 .double (3 : Int32) [(.double y0), (.double (FP.l2d f)), (.double y2)] (.double (FP.l2d 0))) (V_errors : Arv Z h0 b3 k3 .double (3 : Int32) [(.double z0), (.double (FP.l2d e')), (.double z2)] (.double (FP.l2d 0))) (hm1 : FP.dmul (FP.l2d w) (FP.l2d f) = FP.l2d (w * f)) (hm2 : FP.dmul (FP.l2d (w * f)) (FP.l2d f) = FP.l2d ((w * f) * f)) (hm3 : FP.dadd (FP.l2d e') (FP.l2d ((w * f) * f)) = FP.l2d (e' + ((w * f) * f))) :
    MetFree l (⟨"com/example/stochist/stochist/histogram/WeightedPoints", "costAtZero", "(I)D"⟩ : MethodName) (head1 (Jvm.Cond.code (⟨"com/example/stochist/stochist/histogram/WeightedPoints", "costAtZero", "(I)D"⟩ : MethodName) prog_23_method_6_code 2 (some .double) :: ws) ({ frames := 0, cells := 0, slots := 0, locals := 0 } : Room)) (fun a U => a = #[(.ref a0), (.int (1 : Int32))] ∧ Z.Warmed39 U.vm ∧ U.heap = h0) (fun _ _ _ _ _ => True) (fun _ U o U' => ∃ v L, o = .returned v ∧ rm9_1Q Z a0 w f e' h0 n0 v U'.heap L ∧ FrameEnd U o U' L ({ frames := 0, cells := 0, slots := 0, locals := 0 } : Room).cells ({ frames := 0, cells := 0, slots := 0, locals := 0 } : Room).slots) := by
  refine MetFree.of_bodySF (plainFor_of_name pn_9) hisR ?_
  intro p e s m args below meth c s₁ Bd hml0 hP hK
  obtain ⟨rfl, hZ, hh⟩ := hP
  have hx := Bd.exec
  have hby := Bd.bytes
  have hml : c.maxLocals = 2 := hml0
  have hown : s.vm.findClass "com/example/stochist/stochist/histogram/WeightedPoints" = some m.cls := findClass_of_methodNamed Bd.named
  have hnm := (name_of_methodNamed Bd.named Bd.method).1
  have X0 : Stand p l e ({ frames := 0, cells := 0, slots := 0, locals := 0 } : Room) s m #[(.ref a0), (.int (1 : Int32))] below meth c s₁ [] 0 0 := Stand.of_body Bd
  have e0 : s₁.heap = h0 := by rw [← hh, Bd.state]; rfl
  have N0 := Fr.nil n0
  have pre0 : ∀ t, Steps p.tables e below (s₁.setTop (mkF m 0 #[.val (.ref a0), .val (.int (1 : Int32))] [])) t → Steps p.tables e below (s₁.setTop (entryFrame m #[(.ref a0), (.int (1 : Int32))] 2)) t := fun t k => castTop (ef_rm9_1 m a0) k
  obtain ⟨T1, X1, e1, st1⟩ := getF X0 hx hZ hown (host := "") (Or.inl (hw _ (List.mem_of_getElem? (i := 34) rfl))) Via.refl e0 F_errors (g := (mkF m 1 #[.val (.ref a0), .val (.int (1 : Int32))] [(.ref a0)])) rfl rfl (hb hby d9_1)
  obtain ⟨cl2, Ar2, q2, S2, N2', H2, G2⟩ := id V_errors
  have hin2 : ¬ ((1 : Int32) < 0 ∨ cl2.slots.size ≤ ((1 : Int32)).toNatClampNeg) := inb_of S2 ⟨by decide, by decide⟩
  obtain ⟨T3, X3, e3, st3⟩ := getF X1 hx hZ hown (host := "") (Or.inl (hw _ (List.mem_of_getElem? (i := 30) rfl))) Via.refl e1 F_weights (g := (mkF m 7 #[.val (.ref a0), .val (.int (1 : Int32))] [(.ref a0), (.double (FP.l2d e'))])) rfl rfl (hb hby d9_7)
  obtain ⟨cl4, Ar4, q4, S4, N4', H4, G4⟩ := id V_weights
  have hin4 : ¬ ((1 : Int32) < 0 ∨ cl4.slots.size ≤ ((1 : Int32)).toNatClampNeg) := inb_of S4 ⟨by decide, by decide⟩
  obtain ⟨T5, X5, e5, st5⟩ := getF X3 hx hZ hown (host := "") (Or.inl (hw _ (List.mem_of_getElem? (i := 32) rfl))) Via.refl e3 F_values (g := (mkF m 13 #[.val (.ref a0), .val (.int (1 : Int32))] [(.ref a0), (.double (FP.l2d w)), (.double (FP.l2d e'))])) rfl rfl (hb hby d9_13)
  obtain ⟨cl6, Ar6, q6, S6, N6', H6, G6⟩ := id V_values
  have hin6 : ¬ ((1 : Int32) < 0 ∨ cl6.slots.size ≤ ((1 : Int32)).toNatClampNeg) := inb_of S6 ⟨by decide, by decide⟩
  obtain ⟨T7, X7, e7, st7⟩ := getF X5 hx hZ hown (host := "") (Or.inl (hw _ (List.mem_of_getElem? (i := 32) rfl))) Via.refl e5 F_values (g := (mkF m 20 #[.val (.ref a0), .val (.int (1 : Int32))] [(.ref a0), (.double (FP.l2d (w * f))), (.double (FP.l2d e'))])) rfl rfl (hb hby d9_20)
  obtain ⟨cl8, Ar8, q8, S8, N8', H8, G8⟩ := id V_values
  have hin8 : ¬ ((1 : Int32) < 0 ∨ cl8.slots.size ≤ ((1 : Int32)).toNatClampNeg) := inb_of S8 ⟨by decide, by decide⟩
  obtain ⟨fs, hr, hrun, hended, hW, hsame⟩ := X7.leave (v := some (.double (FP.l2d (e' + ((w * f) * f))))) (fun h => by rw [Bd.returns] at h; cases h)
  refine ⟨_, _, pre0 _ ?_, hrun, hended, _, _, rfl, ?_, ⟨_, rfl⟩, hW, hsame.mono (by decide) (by decide)⟩
  · show Steps p.tables e below (s₁.setTop (mkF m 0 #[.val (.ref a0), .val (.int (1 : Int32))] [])) _
    refine XS.aloadN X0.here hx rfl (hb hby d9_0) rfl rfl ?_
    show Steps p.tables e below (s₁.setTop (mkF m 1 #[.val (.ref a0), .val (.int (1 : Int32))] [(.ref a0)])) _
    refine st1 _ ?_
    show Steps p.tables e below (T1.setTop (mkF m 4 #[.val (.ref a0), .val (.int (1 : Int32))] [(.ref b3)])) _
    refine XS.iloadN X1.here hx rfl (hb hby d9_4) rfl ?_
    show Steps p.tables e below (T1.setTop (mkF m 5 #[.val (.ref a0), .val (.int (1 : Int32))] [(.int (1 : Int32)), (.ref b3)])) _
    refine X1.daload hx (j := (1 : Int32)) (v := (.double (FP.l2d e'))) (by rw [e1]; exact Ar2.1) (State.isArrayOf_alike hZ.alike Ar2.2.1) Ar2.2.2 hin2 (H2.at hin2 rfl) (g := (mkF m 5 #[.val (.ref a0), .val (.int (1 : Int32))] [(.int (1 : Int32)), (.ref b3)])) rfl rfl (hb hby d9_5) _ ?_
    show Steps p.tables e below (T1.setTop (mkF m 6 #[.val (.ref a0), .val (.int (1 : Int32))] [(.double (FP.l2d e'))])) _
    refine XS.aloadN X1.here hx rfl (hb hby d9_6) rfl rfl ?_
    show Steps p.tables e below (T1.setTop (mkF m 7 #[.val (.ref a0), .val (.int (1 : Int32))] [(.ref a0), (.double (FP.l2d e'))])) _
    refine st3 _ ?_
    show Steps p.tables e below (T3.setTop (mkF m 10 #[.val (.ref a0), .val (.int (1 : Int32))] [(.ref b1), (.double (FP.l2d e'))])) _
    refine XS.iloadN X3.here hx rfl (hb hby d9_10) rfl ?_
    show Steps p.tables e below (T3.setTop (mkF m 11 #[.val (.ref a0), .val (.int (1 : Int32))] [(.int (1 : Int32)), (.ref b1), (.double (FP.l2d e'))])) _
    refine X3.daload hx (j := (1 : Int32)) (v := (.double (FP.l2d w))) (by rw [e3]; exact Ar4.1) (State.isArrayOf_alike hZ.alike Ar4.2.1) Ar4.2.2 hin4 (H4.at hin4 rfl) (g := (mkF m 11 #[.val (.ref a0), .val (.int (1 : Int32))] [(.int (1 : Int32)), (.ref b1), (.double (FP.l2d e'))])) rfl rfl (hb hby d9_11) _ ?_
    show Steps p.tables e below (T3.setTop (mkF m 12 #[.val (.ref a0), .val (.int (1 : Int32))] [(.double (FP.l2d w)), (.double (FP.l2d e'))])) _
    refine XS.aloadN X3.here hx rfl (hb hby d9_12) rfl rfl ?_
    show Steps p.tables e below (T3.setTop (mkF m 13 #[.val (.ref a0), .val (.int (1 : Int32))] [(.ref a0), (.double (FP.l2d w)), (.double (FP.l2d e'))])) _
    refine st5 _ ?_
    show Steps p.tables e below (T5.setTop (mkF m 16 #[.val (.ref a0), .val (.int (1 : Int32))] [(.ref b2), (.double (FP.l2d w)), (.double (FP.l2d e'))])) _
    refine XS.iloadN X5.here hx rfl (hb hby d9_16) rfl ?_
    show Steps p.tables e below (T5.setTop (mkF m 17 #[.val (.ref a0), .val (.int (1 : Int32))] [(.int (1 : Int32)), (.ref b2), (.double (FP.l2d w)), (.double (FP.l2d e'))])) _
    refine X5.daload hx (j := (1 : Int32)) (v := (.double (FP.l2d f))) (by rw [e5]; exact Ar6.1) (State.isArrayOf_alike hZ.alike Ar6.2.1) Ar6.2.2 hin6 (H6.at hin6 rfl) (g := (mkF m 17 #[.val (.ref a0), .val (.int (1 : Int32))] [(.int (1 : Int32)), (.ref b2), (.double (FP.l2d w)), (.double (FP.l2d e'))])) rfl rfl (hb hby d9_17) _ ?_
    show Steps p.tables e below (T5.setTop (mkF m 18 #[.val (.ref a0), .val (.int (1 : Int32))] [(.double (FP.l2d f)), (.double (FP.l2d w)), (.double (FP.l2d e'))])) _
    refine XS.dmulS X5.here hx rfl (hb hby d9_18) rfl (nn_w hm1) hm1 ?_
    show Steps p.tables e below (T5.setTop (mkF m 19 #[.val (.ref a0), .val (.int (1 : Int32))] [(.double (FP.l2d (w * f))), (.double (FP.l2d e'))])) _
    refine XS.aloadN X5.here hx rfl (hb hby d9_19) rfl rfl ?_
    show Steps p.tables e below (T5.setTop (mkF m 20 #[.val (.ref a0), .val (.int (1 : Int32))] [(.ref a0), (.double (FP.l2d (w * f))), (.double (FP.l2d e'))])) _
    refine st7 _ ?_
    show Steps p.tables e below (T7.setTop (mkF m 23 #[.val (.ref a0), .val (.int (1 : Int32))] [(.ref b2), (.double (FP.l2d (w * f))), (.double (FP.l2d e'))])) _
    refine XS.iloadN X7.here hx rfl (hb hby d9_23) rfl ?_
    show Steps p.tables e below (T7.setTop (mkF m 24 #[.val (.ref a0), .val (.int (1 : Int32))] [(.int (1 : Int32)), (.ref b2), (.double (FP.l2d (w * f))), (.double (FP.l2d e'))])) _
    refine X7.daload hx (j := (1 : Int32)) (v := (.double (FP.l2d f))) (by rw [e7]; exact Ar8.1) (State.isArrayOf_alike hZ.alike Ar8.2.1) Ar8.2.2 hin8 (H8.at hin8 rfl) (g := (mkF m 24 #[.val (.ref a0), .val (.int (1 : Int32))] [(.int (1 : Int32)), (.ref b2), (.double (FP.l2d (w * f))), (.double (FP.l2d e'))])) rfl rfl (hb hby d9_24) _ ?_
    show Steps p.tables e below (T7.setTop (mkF m 25 #[.val (.ref a0), .val (.int (1 : Int32))] [(.double (FP.l2d f)), (.double (FP.l2d (w * f))), (.double (FP.l2d e'))])) _
    refine XS.dmulS X7.here hx rfl (hb hby d9_25) rfl (nn_w hm2) hm2 ?_
    show Steps p.tables e below (T7.setTop (mkF m 26 #[.val (.ref a0), .val (.int (1 : Int32))] [(.double (FP.l2d ((w * f) * f))), (.double (FP.l2d e'))])) _
    refine XS.daddS X7.here hx rfl (hb hby d9_26) rfl (nn_w hm3) hm3 ?_
    show Steps p.tables e below (T7.setTop (mkF m 27 #[.val (.ref a0), .val (.int (1 : Int32))] [(.double (FP.l2d (e' + ((w * f) * f))))])) _
    jvm_step X7.here [X7.here.top, hx, (hb hby d9_27), X7.method', Bd.returns, narrow]
    first | (intro acts; rw [hr _ acts rfl rfl rfl]) | rw [hr _ _ rfl rfl rfl]
    exact Steps.refl _
  · show rm9_1Q Z a0 w f e' h0 n0 _ T7.heap _
    rw [e7]
    exact ⟨rfl, N0, rfl⟩
theorem ef_rm9_2 (m : MethodId) (a0 : Addr) : entryFrame m #[(.ref a0), (.int (2 : Int32))] 2 = mkF m 0 #[.val (.ref a0), .val (.int (2 : Int32))] [] := by first | (simp [entryFrame, mkF, argsToLocals, Value.category]; done) | rfl
def rm9_2Q (Z : State) (a0 : Addr) (w f e' : Int64) (h0 : Heap) (n0 : Nat) (v : Option Value) (h : Heap) (L : List Loc) : Prop := v = some (.double (FP.l2d (e' + ((w * f) * f)))) ∧ Fr n0 L ∧ h = h0
set_option maxRecDepth 65536 in
set_option maxHeartbeats 40000000 in
theorem rm9_2 (l : Launch) (Z : State) (aw : Array Value) (hw : ∀ d ∈ tables_1, d.before aw Z = true) (ws : List Jvm.Cond) (a0 : Addr) (w f e' : Int64) (b1 b2 b3 : Addr) (k1 k2 k3 : ClassId) (x0 x1 y0 y1 z0 z1 : UInt64) (h0 : Heap) (n0 : Nat) (Z0 : n0 ≤ h0.size) (F_weights : Fld Z h0 a0 "com/example/stochist/stochist/histogram/WeightedPoints" "weights" "[D" (.ref b1)) (F_values : Fld Z h0 a0 "com/example/stochist/stochist/histogram/WeightedPoints" "values" "[D" (.ref b2)) (F_errors : Fld Z h0 a0 "com/example/stochist/stochist/histogram/WeightedPoints" "errors" "[D" (.ref b3)) (V_weights : Arv Z h0 b1 k1 .double (3 : Int32) [(.double x0), (.double x1), (.double (FP.l2d w))] (.double (FP.l2d 0))) (V_values : Arv Z h0 b2 k2 .double (3 : Int32) [(.double y0), (.double y1), (.double (FP.l2d f))] (.double (FP.l2d 0))) (V_errors : Arv Z h0 b3 k3 .double (3 : Int32) [(.double z0), (.double z1), (.double (FP.l2d e'))] (.double (FP.l2d 0))) (hm1 : FP.dmul (FP.l2d w) (FP.l2d f) = FP.l2d (w * f)) (hm2 : FP.dmul (FP.l2d (w * f)) (FP.l2d f) = FP.l2d ((w * f) * f)) (hm3 : FP.dadd (FP.l2d e') (FP.l2d ((w * f) * f)) = FP.l2d (e' + ((w * f) * f))) :
    MetFree l (⟨"com/example/stochist/stochist/histogram/WeightedPoints", "costAtZero", "(I)D"⟩ : MethodName) (head1 (Jvm.Cond.code (⟨"com/example/stochist/stochist/histogram/WeightedPoints", "costAtZero", "(I)D"⟩ : MethodName) prog_23_method_6_code 2 (some .double) :: ws) ({ frames := 0, cells := 0, slots := 0, locals := 0 } : Room)) (fun a U => a = #[(.ref a0), (.int (2 : Int32))] ∧ Z.Warmed39 U.vm ∧ U.heap = h0) (fun _ _ _ _ _ => True) (fun _ U o U' => ∃ v L, o = .returned v ∧ rm9_2Q Z a0 w f e' h0 n0 v U'.heap L ∧ FrameEnd U o U' L ({ frames := 0, cells := 0, slots := 0, locals := 0 } : Room).cells ({ frames := 0, cells := 0, slots := 0, locals := 0 } : Room).slots) := by
  refine MetFree.of_bodySF (plainFor_of_name pn_9) hisR ?_
  intro p e s m args below meth c s₁ Bd hml0 hP hK
  obtain ⟨rfl, hZ, hh⟩ := hP
  have hx := Bd.exec
  have hby := Bd.bytes
  have hml : c.maxLocals = 2 := hml0
  have hown : s.vm.findClass "com/example/stochist/stochist/histogram/WeightedPoints" = some m.cls := findClass_of_methodNamed Bd.named
  have hnm := (name_of_methodNamed Bd.named Bd.method).1
  have X0 : Stand p l e ({ frames := 0, cells := 0, slots := 0, locals := 0 } : Room) s m #[(.ref a0), (.int (2 : Int32))] below meth c s₁ [] 0 0 := Stand.of_body Bd
  have e0 : s₁.heap = h0 := by rw [← hh, Bd.state]; rfl
  have N0 := Fr.nil n0
  have pre0 : ∀ t, Steps p.tables e below (s₁.setTop (mkF m 0 #[.val (.ref a0), .val (.int (2 : Int32))] [])) t → Steps p.tables e below (s₁.setTop (entryFrame m #[(.ref a0), (.int (2 : Int32))] 2)) t := fun t k => castTop (ef_rm9_2 m a0) k
  obtain ⟨T1, X1, e1, st1⟩ := getF X0 hx hZ hown (host := "") (Or.inl (hw _ (List.mem_of_getElem? (i := 34) rfl))) Via.refl e0 F_errors (g := (mkF m 1 #[.val (.ref a0), .val (.int (2 : Int32))] [(.ref a0)])) rfl rfl (hb hby d9_1)
  obtain ⟨cl2, Ar2, q2, S2, N2', H2, G2⟩ := id V_errors
  have hin2 : ¬ ((2 : Int32) < 0 ∨ cl2.slots.size ≤ ((2 : Int32)).toNatClampNeg) := inb_of S2 ⟨by decide, by decide⟩
  obtain ⟨T3, X3, e3, st3⟩ := getF X1 hx hZ hown (host := "") (Or.inl (hw _ (List.mem_of_getElem? (i := 30) rfl))) Via.refl e1 F_weights (g := (mkF m 7 #[.val (.ref a0), .val (.int (2 : Int32))] [(.ref a0), (.double (FP.l2d e'))])) rfl rfl (hb hby d9_7)
  obtain ⟨cl4, Ar4, q4, S4, N4', H4, G4⟩ := id V_weights
  have hin4 : ¬ ((2 : Int32) < 0 ∨ cl4.slots.size ≤ ((2 : Int32)).toNatClampNeg) := inb_of S4 ⟨by decide, by decide⟩
  obtain ⟨T5, X5, e5, st5⟩ := getF X3 hx hZ hown (host := "") (Or.inl (hw _ (List.mem_of_getElem? (i := 32) rfl))) Via.refl e3 F_values (g := (mkF m 13 #[.val (.ref a0), .val (.int (2 : Int32))] [(.ref a0), (.double (FP.l2d w)), (.double (FP.l2d e'))])) rfl rfl (hb hby d9_13)
  obtain ⟨cl6, Ar6, q6, S6, N6', H6, G6⟩ := id V_values
  have hin6 : ¬ ((2 : Int32) < 0 ∨ cl6.slots.size ≤ ((2 : Int32)).toNatClampNeg) := inb_of S6 ⟨by decide, by decide⟩
  obtain ⟨T7, X7, e7, st7⟩ := getF X5 hx hZ hown (host := "") (Or.inl (hw _ (List.mem_of_getElem? (i := 32) rfl))) Via.refl e5 F_values (g := (mkF m 20 #[.val (.ref a0), .val (.int (2 : Int32))] [(.ref a0), (.double (FP.l2d (w * f))), (.double (FP.l2d e'))])) rfl rfl (hb hby d9_20)
  obtain ⟨cl8, Ar8, q8, S8, N8', H8, G8⟩ := id V_values
  have hin8 : ¬ ((2 : Int32) < 0 ∨ cl8.slots.size ≤ ((2 : Int32)).toNatClampNeg) := inb_of S8 ⟨by decide, by decide⟩
  obtain ⟨fs, hr, hrun, hended, hW, hsame⟩ := X7.leave (v := some (.double (FP.l2d (e' + ((w * f) * f))))) (fun h => by rw [Bd.returns] at h; cases h)
  refine ⟨_, _, pre0 _ ?_, hrun, hended, _, _, rfl, ?_, ⟨_, rfl⟩, hW, hsame.mono (by decide) (by decide)⟩
  · show Steps p.tables e below (s₁.setTop (mkF m 0 #[.val (.ref a0), .val (.int (2 : Int32))] [])) _
    refine XS.aloadN X0.here hx rfl (hb hby d9_0) rfl rfl ?_
    show Steps p.tables e below (s₁.setTop (mkF m 1 #[.val (.ref a0), .val (.int (2 : Int32))] [(.ref a0)])) _
    refine st1 _ ?_
    show Steps p.tables e below (T1.setTop (mkF m 4 #[.val (.ref a0), .val (.int (2 : Int32))] [(.ref b3)])) _
    refine XS.iloadN X1.here hx rfl (hb hby d9_4) rfl ?_
    show Steps p.tables e below (T1.setTop (mkF m 5 #[.val (.ref a0), .val (.int (2 : Int32))] [(.int (2 : Int32)), (.ref b3)])) _
    refine X1.daload hx (j := (2 : Int32)) (v := (.double (FP.l2d e'))) (by rw [e1]; exact Ar2.1) (State.isArrayOf_alike hZ.alike Ar2.2.1) Ar2.2.2 hin2 (H2.at hin2 rfl) (g := (mkF m 5 #[.val (.ref a0), .val (.int (2 : Int32))] [(.int (2 : Int32)), (.ref b3)])) rfl rfl (hb hby d9_5) _ ?_
    show Steps p.tables e below (T1.setTop (mkF m 6 #[.val (.ref a0), .val (.int (2 : Int32))] [(.double (FP.l2d e'))])) _
    refine XS.aloadN X1.here hx rfl (hb hby d9_6) rfl rfl ?_
    show Steps p.tables e below (T1.setTop (mkF m 7 #[.val (.ref a0), .val (.int (2 : Int32))] [(.ref a0), (.double (FP.l2d e'))])) _
    refine st3 _ ?_
    show Steps p.tables e below (T3.setTop (mkF m 10 #[.val (.ref a0), .val (.int (2 : Int32))] [(.ref b1), (.double (FP.l2d e'))])) _
    refine XS.iloadN X3.here hx rfl (hb hby d9_10) rfl ?_
    show Steps p.tables e below (T3.setTop (mkF m 11 #[.val (.ref a0), .val (.int (2 : Int32))] [(.int (2 : Int32)), (.ref b1), (.double (FP.l2d e'))])) _
    refine X3.daload hx (j := (2 : Int32)) (v := (.double (FP.l2d w))) (by rw [e3]; exact Ar4.1) (State.isArrayOf_alike hZ.alike Ar4.2.1) Ar4.2.2 hin4 (H4.at hin4 rfl) (g := (mkF m 11 #[.val (.ref a0), .val (.int (2 : Int32))] [(.int (2 : Int32)), (.ref b1), (.double (FP.l2d e'))])) rfl rfl (hb hby d9_11) _ ?_
    show Steps p.tables e below (T3.setTop (mkF m 12 #[.val (.ref a0), .val (.int (2 : Int32))] [(.double (FP.l2d w)), (.double (FP.l2d e'))])) _
    refine XS.aloadN X3.here hx rfl (hb hby d9_12) rfl rfl ?_
    show Steps p.tables e below (T3.setTop (mkF m 13 #[.val (.ref a0), .val (.int (2 : Int32))] [(.ref a0), (.double (FP.l2d w)), (.double (FP.l2d e'))])) _
    refine st5 _ ?_
    show Steps p.tables e below (T5.setTop (mkF m 16 #[.val (.ref a0), .val (.int (2 : Int32))] [(.ref b2), (.double (FP.l2d w)), (.double (FP.l2d e'))])) _
    refine XS.iloadN X5.here hx rfl (hb hby d9_16) rfl ?_
    show Steps p.tables e below (T5.setTop (mkF m 17 #[.val (.ref a0), .val (.int (2 : Int32))] [(.int (2 : Int32)), (.ref b2), (.double (FP.l2d w)), (.double (FP.l2d e'))])) _
    refine X5.daload hx (j := (2 : Int32)) (v := (.double (FP.l2d f))) (by rw [e5]; exact Ar6.1) (State.isArrayOf_alike hZ.alike Ar6.2.1) Ar6.2.2 hin6 (H6.at hin6 rfl) (g := (mkF m 17 #[.val (.ref a0), .val (.int (2 : Int32))] [(.int (2 : Int32)), (.ref b2), (.double (FP.l2d w)), (.double (FP.l2d e'))])) rfl rfl (hb hby d9_17) _ ?_
    show Steps p.tables e below (T5.setTop (mkF m 18 #[.val (.ref a0), .val (.int (2 : Int32))] [(.double (FP.l2d f)), (.double (FP.l2d w)), (.double (FP.l2d e'))])) _
    refine XS.dmulS X5.here hx rfl (hb hby d9_18) rfl (nn_w hm1) hm1 ?_
    show Steps p.tables e below (T5.setTop (mkF m 19 #[.val (.ref a0), .val (.int (2 : Int32))] [(.double (FP.l2d (w * f))), (.double (FP.l2d e'))])) _
    refine XS.aloadN X5.here hx rfl (hb hby d9_19) rfl rfl ?_
    show Steps p.tables e below (T5.setTop (mkF m 20 #[.val (.ref a0), .val (.int (2 : Int32))] [(.ref a0), (.double (FP.l2d (w * f))), (.double (FP.l2d e'))])) _
    refine st7 _ ?_
    show Steps p.tables e below (T7.setTop (mkF m 23 #[.val (.ref a0), .val (.int (2 : Int32))] [(.ref b2), (.double (FP.l2d (w * f))), (.double (FP.l2d e'))])) _
    refine XS.iloadN X7.here hx rfl (hb hby d9_23) rfl ?_
    show Steps p.tables e below (T7.setTop (mkF m 24 #[.val (.ref a0), .val (.int (2 : Int32))] [(.int (2 : Int32)), (.ref b2), (.double (FP.l2d (w * f))), (.double (FP.l2d e'))])) _
    refine X7.daload hx (j := (2 : Int32)) (v := (.double (FP.l2d f))) (by rw [e7]; exact Ar8.1) (State.isArrayOf_alike hZ.alike Ar8.2.1) Ar8.2.2 hin8 (H8.at hin8 rfl) (g := (mkF m 24 #[.val (.ref a0), .val (.int (2 : Int32))] [(.int (2 : Int32)), (.ref b2), (.double (FP.l2d (w * f))), (.double (FP.l2d e'))])) rfl rfl (hb hby d9_24) _ ?_
    show Steps p.tables e below (T7.setTop (mkF m 25 #[.val (.ref a0), .val (.int (2 : Int32))] [(.double (FP.l2d f)), (.double (FP.l2d (w * f))), (.double (FP.l2d e'))])) _
    refine XS.dmulS X7.here hx rfl (hb hby d9_25) rfl (nn_w hm2) hm2 ?_
    show Steps p.tables e below (T7.setTop (mkF m 26 #[.val (.ref a0), .val (.int (2 : Int32))] [(.double (FP.l2d ((w * f) * f))), (.double (FP.l2d e'))])) _
    refine XS.daddS X7.here hx rfl (hb hby d9_26) rfl (nn_w hm3) hm3 ?_
    show Steps p.tables e below (T7.setTop (mkF m 27 #[.val (.ref a0), .val (.int (2 : Int32))] [(.double (FP.l2d (e' + ((w * f) * f))))])) _
    jvm_step X7.here [X7.here.top, hx, (hb hby d9_27), X7.method', Bd.returns, narrow]
    first | (intro acts; rw [hr _ acts rfl rfl rfl]) | rw [hr _ _ rfl rfl rfl]
    exact Steps.refl _
  · show rm9_2Q Z a0 w f e' h0 n0 _ T7.heap _
    rw [e7]
    exact ⟨rfl, N0, rfl⟩
theorem own_w {p : Int32} {w : Int64} (h : w = ((p &&& (1023 : Int32)) + (1 : Int32)).toInt64) : 1 ≤ w.toInt ∧ w.toInt ≤ 1024 := by
  have h1 := c_mask p 1023 10 (by decide) (by decide)
  have h2 := c_iadd (p &&& (1023 : Int32)) 1
  have h3 := rng32 ((p &&& (1023 : Int32)) + 1)
  rw [show (1 : Int32).toInt = 1 by decide] at h2
  rw [h, c_i2l]
  have h4 : 0 ≤ (p &&& (1023 : Int32)).toInt ∧ (p &&& (1023 : Int32)).toInt < 1024 := by rw [h1]; omega
  generalize (p &&& (1023 : Int32)).toInt = z at *
  omega
theorem own_f {p : Int32} {f : Int64} (h : f = own_lrem p.toInt64 (2097152 : Int64)) : -2097152 < f.toInt ∧ f.toInt < 2097152 := by
  have h1 := c_lrem p.toInt64 2097152 2097152 (by decide)
  change (_ → (own_lrem p.toInt64 2097152).toInt = _) ∧ (_ → (own_lrem p.toInt64 2097152).toInt = _) at h1
  rw [h]
  omega
theorem own_e {p : Int32} {e : Int64} (h : e = (p &&& (1073741823 : Int32)).toInt64) : 0 ≤ e.toInt ∧ e.toInt < 1073741824 := by
  have h1 := c_mask p 1073741823 30 (by decide) (by decide)
  rw [h, c_i2l, h1]
  omega
theorem own_dbl {w f e : Int64} (hw : 1 ≤ w.toInt ∧ w.toInt ≤ 1024) (hf : -2097152 < f.toInt ∧ f.toInt < 2097152) (he : 0 ≤ e.toInt ∧ e.toInt < 1073741824) :
    FP.dmul (FP.l2d w) (FP.l2d f) = FP.l2d (w * f) ∧ FP.dmul (FP.l2d (w * f)) (FP.l2d f) = FP.l2d ((w * f) * f) ∧ FP.dadd (FP.l2d e) (FP.l2d ((w * f) * f)) = FP.l2d (e + ((w * f) * f)) := by
  have z0 : (0 : Int64).toInt = 0 := by decide
  have p1 : -2147483648 ≤ w.toInt * f.toInt ∧ w.toInt * f.toInt ≤ 2147483648 := by
    have a1 : (w.toInt * f.toInt).natAbs ≤ 1024 * 2097152 := by rw [Int.natAbs_mul]; exact Nat.mul_le_mul (by omega) (by omega)
    omega
  have m1 : (w * f).toInt = w.toInt * f.toInt := by
    have c1 := c_lmul w f
    have r1 := rng64 (w * f)
    generalize w.toInt * f.toInt = z at *
    omega
  have p2 : -4503599627370496 ≤ (w * f).toInt * f.toInt ∧ (w * f).toInt * f.toInt ≤ 4503599627370496 := by
    have a1 : ((w * f).toInt * f.toInt).natAbs ≤ 2147483648 * 2097152 := by rw [Int.natAbs_mul]; exact Nat.mul_le_mul (by omega) (by omega)
    omega
  have m2 : ((w * f) * f).toInt = (w * f).toInt * f.toInt := by
    have c1 := c_lmul (w * f) f
    have r1 := rng64 ((w * f) * f)
    generalize (w * f).toInt * f.toInt = z at *
    omega
  refine ⟨dmul_k (A := 1024) (B := 2097152) (by omega) (by omega) (by omega) (by omega) (by decide) (by decide) (by decide) ?_ ?_, dmul_k (A := 2147483648) (B := 2097152) (by omega) (by omega) (by omega) (by omega) (by decide) (by decide) (by decide) ?_ ?_, dadd_w ⟨by omega, by omega⟩ ⟨by omega, by omega⟩⟩
  · rintro ⟨q, -⟩
    rw [q, z0] at hw; omega
  · rintro ⟨-, q⟩
    rw [Int64.lt_iff_toInt_lt, z0] at q; omega
  · rintro ⟨q1, q2⟩
    rw [Int64.lt_iff_toInt_lt, z0] at q2
    rw [q1, z0] at m1
    have : w.toInt * f.toInt < 0 := Int.mul_neg_of_pos_of_neg (by omega) q2
    omega
  · rintro ⟨q1, q2⟩
    rw [Int64.lt_iff_toInt_lt, z0, m1, q1, z0] at q2
    simp at q2

theorem pn_0 : plainName "com/example/stochist/stochist/histogram/WeightedPointsCostAtZeroPinLaw" = true := by first | (simp [plainName, overriddenIn]; done) | decide +kernel
theorem pd_rm0_0 : parseMethodDescriptor "(DDD)V" = some ⟨[.double, .double, .double], none⟩ := by decide +kernel
theorem pd_rm0_1 : parseMethodDescriptor "(I)V" = some ⟨[.int], none⟩ := by decide +kernel
theorem pd_rm0_2 : parseMethodDescriptor "(Lcom/example/stochist/stochist/histogram/WeightedPoints$Point;)V" = some ⟨[(.object "com/example/stochist/stochist/histogram/WeightedPoints$Point")], none⟩ := by decide +kernel
theorem pd_rm0_3 : parseMethodDescriptor "(I)D" = some ⟨[.int], some .double⟩ := by decide +kernel
theorem ef_rm0 (m : MethodId) (p0 : Int32) (p1 : Int32) (p2 : Int32) (p3 : Int32) (p4 : Int32) (p5 : Int32) : entryFrame m #[(.int p0), (.int p1), (.int p2), (.int p3), (.int p4), (.int p5)] maxLocals = mkF m 0 #[.val (.int p0), .val (.int p1), .val (.int p2), .val (.int p3), .val (.int p4), .val (.int p5), .unset, .unset, .unset, .unset, .unset, .unset, .unset, .unset, .unset, .unset, .unset, .unset, .unset, .unset, .unset, .unset, .unset, .unset, .unset, .unset, .unset, .unset, .unset] [] := by first | (simp [entryFrame, mkF, argsToLocals, Value.category, maxLocals]; done) | rfl
def rm0Q (Z : State) (p0 : Int32) (p1 : Int32) (p2 : Int32) (p3 : Int32) (p4 : Int32) (p5 : Int32) (h0 : Heap) (n0 : Nat) (v : Option Value) (h : Heap) (L : List Loc) : Prop := v = some (.int (1 : Int32)) ∧ Fr n0 L
set_option maxRecDepth 65536 in
set_option maxHeartbeats 40000000 in
theorem rm0 (l : Launch) (Z : State) (aw : Array Value) (hw : ∀ d ∈ tables_1, d.before aw Z = true) (ws : List Jvm.Cond) (p0 : Int32) (p1 : Int32) (p2 : Int32) (p3 : Int32) (p4 : Int32) (p5 : Int32) (h0 : Heap) (n0 : Nat) (Z0 : n0 ≤ h0.size) :
    MetFree l x (head1 (Jvm.Cond.code x code maxLocals ret :: ws) room_1) (fun a U => a = #[(.int p0), (.int p1), (.int p2), (.int p3), (.int p4), (.int p5)] ∧ Z.Warmed39 U.vm ∧ U.heap = h0) (fun _ _ _ _ _ => True) (fun _ U o U' => ∃ v L, o = .returned v ∧ rm0Q Z p0 p1 p2 p3 p4 p5 h0 n0 v U'.heap L ∧ FrameEnd U o U' L room_1.cells room_1.slots) := by
  refine MetFree.of_bodySF (plainFor_of_name pn_0) hisR ?_
  intro p e s m args below meth c s₁ Bd hml0 hP hK
  obtain ⟨rfl, hZ, hh⟩ := hP
  have hx := Bd.exec
  have hby := Bd.bytes
  have hml : c.maxLocals = 29 := hml0
  have hown : s.vm.findClass "com/example/stochist/stochist/histogram/WeightedPointsCostAtZeroPinLaw" = some m.cls := findClass_of_methodNamed Bd.named
  have hnm := (name_of_methodNamed Bd.named Bd.method).1
  have X0 : Stand p l e room_1 s m #[(.int p0), (.int p1), (.int p2), (.int p3), (.int p4), (.int p5)] below meth c s₁ [] 0 0 := Stand.of_body Bd
  have e0 : s₁.heap = h0 := by rw [← hh, Bd.state]; rfl
  have N0 := Fr.nil n0
  have pre0 : ∀ t, Steps p.tables e below (s₁.setTop (mkF m 0 #[.val (.int p0), .val (.int p1), .val (.int p2), .val (.int p3), .val (.int p4), .val (.int p5), .unset, .unset, .unset, .unset, .unset, .unset, .unset, .unset, .unset, .unset, .unset, .unset, .unset, .unset, .unset, .unset, .unset, .unset, .unset, .unset, .unset, .unset, .unset] [])) t → Steps p.tables e below (s₁.setTop (entryFrame m #[(.int p0), (.int p1), (.int p2), (.int p3), (.int p4), (.int p5)] maxLocals)) t := fun t k => castTop (ef_rm0 m p0 p1 p2 p3 p4 p5) k
  have pre1 : ∀ t, Steps p.tables e below (s₁.setTop (mkF m 8 #[.val (.int p0), .val (.int p1), .val (.int p2), .val (.int p3), .val (.int p4), .val (.int p5), .unset, .unset, .unset, .unset, .unset, .unset, .unset, .unset, .unset, .unset, .unset, .unset, .unset, .unset, .unset, .unset, .unset, .unset, .unset, .unset, .unset, .unset, .unset] [(.long (((p0 &&& (1023 : Int32)) + (1 : Int32)).toInt64))])) t → Steps p.tables e below (s₁.setTop (entryFrame m #[(.int p0), (.int p1), (.int p2), (.int p3), (.int p4), (.int p5)] maxLocals)) t := fun t k => pre0 t (by
    show Steps p.tables e below (s₁.setTop (mkF m 0 #[.val (.int p0), .val (.int p1), .val (.int p2), .val (.int p3), .val (.int p4), .val (.int p5), .unset, .unset, .unset, .unset, .unset, .unset, .unset, .unset, .unset, .unset, .unset, .unset, .unset, .unset, .unset, .unset, .unset, .unset, .unset, .unset, .unset, .unset, .unset] [])) _
    refine XS.iloadN X0.here hx rfl (hb hby at_0) rfl ?_
    show Steps p.tables e below (s₁.setTop (mkF m 1 #[.val (.int p0), .val (.int p1), .val (.int p2), .val (.int p3), .val (.int p4), .val (.int p5), .unset, .unset, .unset, .unset, .unset, .unset, .unset, .unset, .unset, .unset, .unset, .unset, .unset, .unset, .unset, .unset, .unset, .unset, .unset, .unset, .unset, .unset, .unset] [(.int p0)])) _
    refine XS.sipush X0.here hx rfl (hb hby at_1) ?_
    show Steps p.tables e below (s₁.setTop (mkF m 4 #[.val (.int p0), .val (.int p1), .val (.int p2), .val (.int p3), .val (.int p4), .val (.int p5), .unset, .unset, .unset, .unset, .unset, .unset, .unset, .unset, .unset, .unset, .unset, .unset, .unset, .unset, .unset, .unset, .unset, .unset, .unset, .unset, .unset, .unset, .unset] [(.int (1023 : Int32)), (.int p0)])) _
    refine XS.iand X0.here hx rfl (hb hby at_4) rfl ?_
    show Steps p.tables e below (s₁.setTop (mkF m 5 #[.val (.int p0), .val (.int p1), .val (.int p2), .val (.int p3), .val (.int p4), .val (.int p5), .unset, .unset, .unset, .unset, .unset, .unset, .unset, .unset, .unset, .unset, .unset, .unset, .unset, .unset, .unset, .unset, .unset, .unset, .unset, .unset, .unset, .unset, .unset] [(.int (p0 &&& (1023 : Int32)))])) _
    refine XS.iconst X0.here hx rfl (hb hby at_5) ?_
    show Steps p.tables e below (s₁.setTop (mkF m 6 #[.val (.int p0), .val (.int p1), .val (.int p2), .val (.int p3), .val (.int p4), .val (.int p5), .unset, .unset, .unset, .unset, .unset, .unset, .unset, .unset, .unset, .unset, .unset, .unset, .unset, .unset, .unset, .unset, .unset, .unset, .unset, .unset, .unset, .unset, .unset] [(.int (1 : Int32)), (.int (p0 &&& (1023 : Int32)))])) _
    refine XS.iadd X0.here hx rfl (hb hby at_6) rfl ?_
    show Steps p.tables e below (s₁.setTop (mkF m 7 #[.val (.int p0), .val (.int p1), .val (.int p2), .val (.int p3), .val (.int p4), .val (.int p5), .unset, .unset, .unset, .unset, .unset, .unset, .unset, .unset, .unset, .unset, .unset, .unset, .unset, .unset, .unset, .unset, .unset, .unset, .unset, .unset, .unset, .unset, .unset] [(.int ((p0 &&& (1023 : Int32)) + (1 : Int32)))])) _
    refine XS.i2l X0.here hx rfl (hb hby at_7) rfl ?_
    exact k)
  obtain ⟨wa, hwa⟩ : ∃ z : Int64, z = (((p0 &&& (1023 : Int32)) + (1 : Int32)).toInt64) := ⟨_, rfl⟩
  rw [← hwa] at pre1
  have pre2 : ∀ t, Steps p.tables e below (s₁.setTop (mkF m 16 #[.val (.int p0), .val (.int p1), .val (.int p2), .val (.int p3), .val (.int p4), .val (.int p5), .val (.long wa), .second, .unset, .unset, .unset, .unset, .unset, .unset, .unset, .unset, .unset, .unset, .unset, .unset, .unset, .unset, .unset, .unset, .unset, .unset, .unset, .unset, .unset] [(.long (own_lrem (p1.toInt64) (2097152 : Int64)))])) t → Steps p.tables e below (s₁.setTop (entryFrame m #[(.int p0), (.int p1), (.int p2), (.int p3), (.int p4), (.int p5)] maxLocals)) t := fun t k => pre1 t (by
    show Steps p.tables e below (s₁.setTop (mkF m 8 #[.val (.int p0), .val (.int p1), .val (.int p2), .val (.int p3), .val (.int p4), .val (.int p5), .unset, .unset, .unset, .unset, .unset, .unset, .unset, .unset, .unset, .unset, .unset, .unset, .unset, .unset, .unset, .unset, .unset, .unset, .unset, .unset, .unset, .unset, .unset] [(.long wa)])) _
    refine XS.lstore X0.here hx rfl (hb hby at_8) rfl (l' := #[.val (.int p0), .val (.int p1), .val (.int p2), .val (.int p3), .val (.int p4), .val (.int p5), .val (.long wa), .second, .unset, .unset, .unset, .unset, .unset, .unset, .unset, .unset, .unset, .unset, .unset, .unset, .unset, .unset, .unset, .unset, .unset, .unset, .unset, .unset, .unset]) rfl ?_
    show Steps p.tables e below (s₁.setTop (mkF m 10 #[.val (.int p0), .val (.int p1), .val (.int p2), .val (.int p3), .val (.int p4), .val (.int p5), .val (.long wa), .second, .unset, .unset, .unset, .unset, .unset, .unset, .unset, .unset, .unset, .unset, .unset, .unset, .unset, .unset, .unset, .unset, .unset, .unset, .unset, .unset, .unset] [])) _
    refine XS.iloadN X0.here hx rfl (hb hby at_10) rfl ?_
    show Steps p.tables e below (s₁.setTop (mkF m 11 #[.val (.int p0), .val (.int p1), .val (.int p2), .val (.int p3), .val (.int p4), .val (.int p5), .val (.long wa), .second, .unset, .unset, .unset, .unset, .unset, .unset, .unset, .unset, .unset, .unset, .unset, .unset, .unset, .unset, .unset, .unset, .unset, .unset, .unset, .unset, .unset] [(.int p1)])) _
    refine XS.i2l X0.here hx rfl (hb hby at_11) rfl ?_
    show Steps p.tables e below (s₁.setTop (mkF m 12 #[.val (.int p0), .val (.int p1), .val (.int p2), .val (.int p3), .val (.int p4), .val (.int p5), .val (.long wa), .second, .unset, .unset, .unset, .unset, .unset, .unset, .unset, .unset, .unset, .unset, .unset, .unset, .unset, .unset, .unset, .unset, .unset, .unset, .unset, .unset, .unset] [(.long (p1.toInt64))])) _
    refine X0.ldc2Long hx hown (mvT hZ (hw _ (List.mem_of_getElem? (i := 0) rfl))) (g := (mkF m 12 #[.val (.int p0), .val (.int p1), .val (.int p2), .val (.int p3), .val (.int p4), .val (.int p5), .val (.long wa), .second, .unset, .unset, .unset, .unset, .unset, .unset, .unset, .unset, .unset, .unset, .unset, .unset, .unset, .unset, .unset, .unset, .unset, .unset, .unset, .unset, .unset] [(.long (p1.toInt64))])) rfl (hb hby at_12) _ ?_
    show Steps p.tables e below (s₁.setTop (mkF m 15 #[.val (.int p0), .val (.int p1), .val (.int p2), .val (.int p3), .val (.int p4), .val (.int p5), .val (.long wa), .second, .unset, .unset, .unset, .unset, .unset, .unset, .unset, .unset, .unset, .unset, .unset, .unset, .unset, .unset, .unset, .unset, .unset, .unset, .unset, .unset, .unset] [(.long (2097152 : Int64)), (.long (p1.toInt64))])) _
    refine XS.lrem X0.here hx rfl (hb hby at_15) rfl (by decide) ?_
    exact k)
  obtain ⟨fa, hfa⟩ : ∃ z : Int64, z = (own_lrem (p1.toInt64) (2097152 : Int64)) := ⟨_, rfl⟩
  rw [← hfa] at pre2
  have pre3 : ∀ t, Steps p.tables e below (s₁.setTop (mkF m 23 #[.val (.int p0), .val (.int p1), .val (.int p2), .val (.int p3), .val (.int p4), .val (.int p5), .val (.long wa), .second, .val (.long fa), .second, .unset, .unset, .unset, .unset, .unset, .unset, .unset, .unset, .unset, .unset, .unset, .unset, .unset, .unset, .unset, .unset, .unset, .unset, .unset] [(.long ((p2 &&& (1073741823 : Int32)).toInt64))])) t → Steps p.tables e below (s₁.setTop (entryFrame m #[(.int p0), (.int p1), (.int p2), (.int p3), (.int p4), (.int p5)] maxLocals)) t := fun t k => pre2 t (by
    show Steps p.tables e below (s₁.setTop (mkF m 16 #[.val (.int p0), .val (.int p1), .val (.int p2), .val (.int p3), .val (.int p4), .val (.int p5), .val (.long wa), .second, .unset, .unset, .unset, .unset, .unset, .unset, .unset, .unset, .unset, .unset, .unset, .unset, .unset, .unset, .unset, .unset, .unset, .unset, .unset, .unset, .unset] [(.long fa)])) _
    refine XS.lstore X0.here hx rfl (hb hby at_16) rfl (l' := #[.val (.int p0), .val (.int p1), .val (.int p2), .val (.int p3), .val (.int p4), .val (.int p5), .val (.long wa), .second, .val (.long fa), .second, .unset, .unset, .unset, .unset, .unset, .unset, .unset, .unset, .unset, .unset, .unset, .unset, .unset, .unset, .unset, .unset, .unset, .unset, .unset]) rfl ?_
    show Steps p.tables e below (s₁.setTop (mkF m 18 #[.val (.int p0), .val (.int p1), .val (.int p2), .val (.int p3), .val (.int p4), .val (.int p5), .val (.long wa), .second, .val (.long fa), .second, .unset, .unset, .unset, .unset, .unset, .unset, .unset, .unset, .unset, .unset, .unset, .unset, .unset, .unset, .unset, .unset, .unset, .unset, .unset] [])) _
    refine XS.iloadN X0.here hx rfl (hb hby at_18) rfl ?_
    show Steps p.tables e below (s₁.setTop (mkF m 19 #[.val (.int p0), .val (.int p1), .val (.int p2), .val (.int p3), .val (.int p4), .val (.int p5), .val (.long wa), .second, .val (.long fa), .second, .unset, .unset, .unset, .unset, .unset, .unset, .unset, .unset, .unset, .unset, .unset, .unset, .unset, .unset, .unset, .unset, .unset, .unset, .unset] [(.int p2)])) _
    refine X0.ldcInt hx hown (mvT hZ (hw _ (List.mem_of_getElem? (i := 1) rfl))) (g := (mkF m 19 #[.val (.int p0), .val (.int p1), .val (.int p2), .val (.int p3), .val (.int p4), .val (.int p5), .val (.long wa), .second, .val (.long fa), .second, .unset, .unset, .unset, .unset, .unset, .unset, .unset, .unset, .unset, .unset, .unset, .unset, .unset, .unset, .unset, .unset, .unset, .unset, .unset] [(.int p2)])) rfl (hb hby at_19) _ ?_
    show Steps p.tables e below (s₁.setTop (mkF m 21 #[.val (.int p0), .val (.int p1), .val (.int p2), .val (.int p3), .val (.int p4), .val (.int p5), .val (.long wa), .second, .val (.long fa), .second, .unset, .unset, .unset, .unset, .unset, .unset, .unset, .unset, .unset, .unset, .unset, .unset, .unset, .unset, .unset, .unset, .unset, .unset, .unset] [(.int (1073741823 : Int32)), (.int p2)])) _
    refine XS.iand X0.here hx rfl (hb hby at_21) rfl ?_
    show Steps p.tables e below (s₁.setTop (mkF m 22 #[.val (.int p0), .val (.int p1), .val (.int p2), .val (.int p3), .val (.int p4), .val (.int p5), .val (.long wa), .second, .val (.long fa), .second, .unset, .unset, .unset, .unset, .unset, .unset, .unset, .unset, .unset, .unset, .unset, .unset, .unset, .unset, .unset, .unset, .unset, .unset, .unset] [(.int (p2 &&& (1073741823 : Int32)))])) _
    refine XS.i2l X0.here hx rfl (hb hby at_22) rfl ?_
    exact k)
  obtain ⟨ea, hea⟩ : ∃ z : Int64, z = ((p2 &&& (1073741823 : Int32)).toInt64) := ⟨_, rfl⟩
  rw [← hea] at pre3
  have pre4 : ∀ t, Steps p.tables e below (s₁.setTop (mkF m 33 #[.val (.int p0), .val (.int p1), .val (.int p2), .val (.int p3), .val (.int p4), .val (.int p5), .val (.long wa), .second, .val (.long fa), .second, .val (.long ea), .second, .unset, .unset, .unset, .unset, .unset, .unset, .unset, .unset, .unset, .unset, .unset, .unset, .unset, .unset, .unset, .unset, .unset] [(.long (((p3 &&& (1023 : Int32)) + (1 : Int32)).toInt64))])) t → Steps p.tables e below (s₁.setTop (entryFrame m #[(.int p0), (.int p1), (.int p2), (.int p3), (.int p4), (.int p5)] maxLocals)) t := fun t k => pre3 t (by
    show Steps p.tables e below (s₁.setTop (mkF m 23 #[.val (.int p0), .val (.int p1), .val (.int p2), .val (.int p3), .val (.int p4), .val (.int p5), .val (.long wa), .second, .val (.long fa), .second, .unset, .unset, .unset, .unset, .unset, .unset, .unset, .unset, .unset, .unset, .unset, .unset, .unset, .unset, .unset, .unset, .unset, .unset, .unset] [(.long ea)])) _
    refine XS.lstore X0.here hx rfl (hb hby at_23) rfl (l' := #[.val (.int p0), .val (.int p1), .val (.int p2), .val (.int p3), .val (.int p4), .val (.int p5), .val (.long wa), .second, .val (.long fa), .second, .val (.long ea), .second, .unset, .unset, .unset, .unset, .unset, .unset, .unset, .unset, .unset, .unset, .unset, .unset, .unset, .unset, .unset, .unset, .unset]) rfl ?_
    show Steps p.tables e below (s₁.setTop (mkF m 25 #[.val (.int p0), .val (.int p1), .val (.int p2), .val (.int p3), .val (.int p4), .val (.int p5), .val (.long wa), .second, .val (.long fa), .second, .val (.long ea), .second, .unset, .unset, .unset, .unset, .unset, .unset, .unset, .unset, .unset, .unset, .unset, .unset, .unset, .unset, .unset, .unset, .unset] [])) _
    refine XS.iloadN X0.here hx rfl (hb hby at_25) rfl ?_
    show Steps p.tables e below (s₁.setTop (mkF m 26 #[.val (.int p0), .val (.int p1), .val (.int p2), .val (.int p3), .val (.int p4), .val (.int p5), .val (.long wa), .second, .val (.long fa), .second, .val (.long ea), .second, .unset, .unset, .unset, .unset, .unset, .unset, .unset, .unset, .unset, .unset, .unset, .unset, .unset, .unset, .unset, .unset, .unset] [(.int p3)])) _
    refine XS.sipush X0.here hx rfl (hb hby at_26) ?_
    show Steps p.tables e below (s₁.setTop (mkF m 29 #[.val (.int p0), .val (.int p1), .val (.int p2), .val (.int p3), .val (.int p4), .val (.int p5), .val (.long wa), .second, .val (.long fa), .second, .val (.long ea), .second, .unset, .unset, .unset, .unset, .unset, .unset, .unset, .unset, .unset, .unset, .unset, .unset, .unset, .unset, .unset, .unset, .unset] [(.int (1023 : Int32)), (.int p3)])) _
    refine XS.iand X0.here hx rfl (hb hby at_29) rfl ?_
    show Steps p.tables e below (s₁.setTop (mkF m 30 #[.val (.int p0), .val (.int p1), .val (.int p2), .val (.int p3), .val (.int p4), .val (.int p5), .val (.long wa), .second, .val (.long fa), .second, .val (.long ea), .second, .unset, .unset, .unset, .unset, .unset, .unset, .unset, .unset, .unset, .unset, .unset, .unset, .unset, .unset, .unset, .unset, .unset] [(.int (p3 &&& (1023 : Int32)))])) _
    refine XS.iconst X0.here hx rfl (hb hby at_30) ?_
    show Steps p.tables e below (s₁.setTop (mkF m 31 #[.val (.int p0), .val (.int p1), .val (.int p2), .val (.int p3), .val (.int p4), .val (.int p5), .val (.long wa), .second, .val (.long fa), .second, .val (.long ea), .second, .unset, .unset, .unset, .unset, .unset, .unset, .unset, .unset, .unset, .unset, .unset, .unset, .unset, .unset, .unset, .unset, .unset] [(.int (1 : Int32)), (.int (p3 &&& (1023 : Int32)))])) _
    refine XS.iadd X0.here hx rfl (hb hby at_31) rfl ?_
    show Steps p.tables e below (s₁.setTop (mkF m 32 #[.val (.int p0), .val (.int p1), .val (.int p2), .val (.int p3), .val (.int p4), .val (.int p5), .val (.long wa), .second, .val (.long fa), .second, .val (.long ea), .second, .unset, .unset, .unset, .unset, .unset, .unset, .unset, .unset, .unset, .unset, .unset, .unset, .unset, .unset, .unset, .unset, .unset] [(.int ((p3 &&& (1023 : Int32)) + (1 : Int32)))])) _
    refine XS.i2l X0.here hx rfl (hb hby at_32) rfl ?_
    exact k)
  obtain ⟨wb, hwb⟩ : ∃ z : Int64, z = (((p3 &&& (1023 : Int32)) + (1 : Int32)).toInt64) := ⟨_, rfl⟩
  rw [← hwb] at pre4
  have pre5 : ∀ t, Steps p.tables e below (s₁.setTop (mkF m 42 #[.val (.int p0), .val (.int p1), .val (.int p2), .val (.int p3), .val (.int p4), .val (.int p5), .val (.long wa), .second, .val (.long fa), .second, .val (.long ea), .second, .val (.long wb), .second, .unset, .unset, .unset, .unset, .unset, .unset, .unset, .unset, .unset, .unset, .unset, .unset, .unset, .unset, .unset] [(.long (own_lrem (p4.toInt64) (2097152 : Int64)))])) t → Steps p.tables e below (s₁.setTop (entryFrame m #[(.int p0), (.int p1), (.int p2), (.int p3), (.int p4), (.int p5)] maxLocals)) t := fun t k => pre4 t (by
    show Steps p.tables e below (s₁.setTop (mkF m 33 #[.val (.int p0), .val (.int p1), .val (.int p2), .val (.int p3), .val (.int p4), .val (.int p5), .val (.long wa), .second, .val (.long fa), .second, .val (.long ea), .second, .unset, .unset, .unset, .unset, .unset, .unset, .unset, .unset, .unset, .unset, .unset, .unset, .unset, .unset, .unset, .unset, .unset] [(.long wb)])) _
    refine XS.lstore X0.here hx rfl (hb hby at_33) rfl (l' := #[.val (.int p0), .val (.int p1), .val (.int p2), .val (.int p3), .val (.int p4), .val (.int p5), .val (.long wa), .second, .val (.long fa), .second, .val (.long ea), .second, .val (.long wb), .second, .unset, .unset, .unset, .unset, .unset, .unset, .unset, .unset, .unset, .unset, .unset, .unset, .unset, .unset, .unset]) rfl ?_
    show Steps p.tables e below (s₁.setTop (mkF m 35 #[.val (.int p0), .val (.int p1), .val (.int p2), .val (.int p3), .val (.int p4), .val (.int p5), .val (.long wa), .second, .val (.long fa), .second, .val (.long ea), .second, .val (.long wb), .second, .unset, .unset, .unset, .unset, .unset, .unset, .unset, .unset, .unset, .unset, .unset, .unset, .unset, .unset, .unset] [])) _
    refine XS.iload X0.here hx rfl (hb hby at_35) rfl ?_
    show Steps p.tables e below (s₁.setTop (mkF m 37 #[.val (.int p0), .val (.int p1), .val (.int p2), .val (.int p3), .val (.int p4), .val (.int p5), .val (.long wa), .second, .val (.long fa), .second, .val (.long ea), .second, .val (.long wb), .second, .unset, .unset, .unset, .unset, .unset, .unset, .unset, .unset, .unset, .unset, .unset, .unset, .unset, .unset, .unset] [(.int p4)])) _
    refine XS.i2l X0.here hx rfl (hb hby at_37) rfl ?_
    show Steps p.tables e below (s₁.setTop (mkF m 38 #[.val (.int p0), .val (.int p1), .val (.int p2), .val (.int p3), .val (.int p4), .val (.int p5), .val (.long wa), .second, .val (.long fa), .second, .val (.long ea), .second, .val (.long wb), .second, .unset, .unset, .unset, .unset, .unset, .unset, .unset, .unset, .unset, .unset, .unset, .unset, .unset, .unset, .unset] [(.long (p4.toInt64))])) _
    refine X0.ldc2Long hx hown (mvT hZ (hw _ (List.mem_of_getElem? (i := 0) rfl))) (g := (mkF m 38 #[.val (.int p0), .val (.int p1), .val (.int p2), .val (.int p3), .val (.int p4), .val (.int p5), .val (.long wa), .second, .val (.long fa), .second, .val (.long ea), .second, .val (.long wb), .second, .unset, .unset, .unset, .unset, .unset, .unset, .unset, .unset, .unset, .unset, .unset, .unset, .unset, .unset, .unset] [(.long (p4.toInt64))])) rfl (hb hby at_38) _ ?_
    show Steps p.tables e below (s₁.setTop (mkF m 41 #[.val (.int p0), .val (.int p1), .val (.int p2), .val (.int p3), .val (.int p4), .val (.int p5), .val (.long wa), .second, .val (.long fa), .second, .val (.long ea), .second, .val (.long wb), .second, .unset, .unset, .unset, .unset, .unset, .unset, .unset, .unset, .unset, .unset, .unset, .unset, .unset, .unset, .unset] [(.long (2097152 : Int64)), (.long (p4.toInt64))])) _
    refine XS.lrem X0.here hx rfl (hb hby at_41) rfl (by decide) ?_
    exact k)
  obtain ⟨fb, hfb⟩ : ∃ z : Int64, z = (own_lrem (p4.toInt64) (2097152 : Int64)) := ⟨_, rfl⟩
  rw [← hfb] at pre5
  have pre6 : ∀ t, Steps p.tables e below (s₁.setTop (mkF m 50 #[.val (.int p0), .val (.int p1), .val (.int p2), .val (.int p3), .val (.int p4), .val (.int p5), .val (.long wa), .second, .val (.long fa), .second, .val (.long ea), .second, .val (.long wb), .second, .val (.long fb), .second, .unset, .unset, .unset, .unset, .unset, .unset, .unset, .unset, .unset, .unset, .unset, .unset, .unset] [(.long ((p5 &&& (1073741823 : Int32)).toInt64))])) t → Steps p.tables e below (s₁.setTop (entryFrame m #[(.int p0), (.int p1), (.int p2), (.int p3), (.int p4), (.int p5)] maxLocals)) t := fun t k => pre5 t (by
    show Steps p.tables e below (s₁.setTop (mkF m 42 #[.val (.int p0), .val (.int p1), .val (.int p2), .val (.int p3), .val (.int p4), .val (.int p5), .val (.long wa), .second, .val (.long fa), .second, .val (.long ea), .second, .val (.long wb), .second, .unset, .unset, .unset, .unset, .unset, .unset, .unset, .unset, .unset, .unset, .unset, .unset, .unset, .unset, .unset] [(.long fb)])) _
    refine XS.lstore X0.here hx rfl (hb hby at_42) rfl (l' := #[.val (.int p0), .val (.int p1), .val (.int p2), .val (.int p3), .val (.int p4), .val (.int p5), .val (.long wa), .second, .val (.long fa), .second, .val (.long ea), .second, .val (.long wb), .second, .val (.long fb), .second, .unset, .unset, .unset, .unset, .unset, .unset, .unset, .unset, .unset, .unset, .unset, .unset, .unset]) rfl ?_
    show Steps p.tables e below (s₁.setTop (mkF m 44 #[.val (.int p0), .val (.int p1), .val (.int p2), .val (.int p3), .val (.int p4), .val (.int p5), .val (.long wa), .second, .val (.long fa), .second, .val (.long ea), .second, .val (.long wb), .second, .val (.long fb), .second, .unset, .unset, .unset, .unset, .unset, .unset, .unset, .unset, .unset, .unset, .unset, .unset, .unset] [])) _
    refine XS.iload X0.here hx rfl (hb hby at_44) rfl ?_
    show Steps p.tables e below (s₁.setTop (mkF m 46 #[.val (.int p0), .val (.int p1), .val (.int p2), .val (.int p3), .val (.int p4), .val (.int p5), .val (.long wa), .second, .val (.long fa), .second, .val (.long ea), .second, .val (.long wb), .second, .val (.long fb), .second, .unset, .unset, .unset, .unset, .unset, .unset, .unset, .unset, .unset, .unset, .unset, .unset, .unset] [(.int p5)])) _
    refine X0.ldcInt hx hown (mvT hZ (hw _ (List.mem_of_getElem? (i := 1) rfl))) (g := (mkF m 46 #[.val (.int p0), .val (.int p1), .val (.int p2), .val (.int p3), .val (.int p4), .val (.int p5), .val (.long wa), .second, .val (.long fa), .second, .val (.long ea), .second, .val (.long wb), .second, .val (.long fb), .second, .unset, .unset, .unset, .unset, .unset, .unset, .unset, .unset, .unset, .unset, .unset, .unset, .unset] [(.int p5)])) rfl (hb hby at_46) _ ?_
    show Steps p.tables e below (s₁.setTop (mkF m 48 #[.val (.int p0), .val (.int p1), .val (.int p2), .val (.int p3), .val (.int p4), .val (.int p5), .val (.long wa), .second, .val (.long fa), .second, .val (.long ea), .second, .val (.long wb), .second, .val (.long fb), .second, .unset, .unset, .unset, .unset, .unset, .unset, .unset, .unset, .unset, .unset, .unset, .unset, .unset] [(.int (1073741823 : Int32)), (.int p5)])) _
    refine XS.iand X0.here hx rfl (hb hby at_48) rfl ?_
    show Steps p.tables e below (s₁.setTop (mkF m 49 #[.val (.int p0), .val (.int p1), .val (.int p2), .val (.int p3), .val (.int p4), .val (.int p5), .val (.long wa), .second, .val (.long fa), .second, .val (.long ea), .second, .val (.long wb), .second, .val (.long fb), .second, .unset, .unset, .unset, .unset, .unset, .unset, .unset, .unset, .unset, .unset, .unset, .unset, .unset] [(.int (p5 &&& (1073741823 : Int32)))])) _
    refine XS.i2l X0.here hx rfl (hb hby at_49) rfl ?_
    exact k)
  obtain ⟨eb, heb⟩ : ∃ z : Int64, z = ((p5 &&& (1073741823 : Int32)).toInt64) := ⟨_, rfl⟩
  rw [← heb] at pre6
  have own_dbl1 := own_dbl (own_w hwa) (own_f hfa) (own_e hea)
  have own_dbl2 := own_dbl (own_w hwb) (own_f hfb) (own_e heb)
  obtain ⟨T7, h7, X7, e7, E7, A7, D7, -, st7⟩ := newO X0 hx hZ hown (hw _ (List.mem_of_getElem? (i := 2) rfl)) (hw _ (List.mem_of_getElem? (i := 3) rfl)) (hw _ (List.mem_of_getElem? (i := 4) rfl)) e0 (g := (mkF m 52 #[.val (.int p0), .val (.int p1), .val (.int p2), .val (.int p3), .val (.int p4), .val (.int p5), .val (.long wa), .second, .val (.long fa), .second, .val (.long ea), .second, .val (.long wb), .second, .val (.long fb), .second, .val (.long eb), .second, .unset, .unset, .unset, .unset, .unset, .unset, .unset, .unset, .unset, .unset, .unset] [])) rfl (hb hby at_52) (by decide) (by decide)
  obtain ⟨b7, g7⟩ : ∃ z, z = h0.size := ⟨_, rfl⟩
  rw [← g7] at A7 D7 st7
  have g_b7 : n0 ≤ b7 := Nat.le_trans Z0 (Nat.le_of_eq g7.symm)
  have sz_b7 : h0.size ≤ b7 := Nat.le_trans (Keep.refl h0 []).1 (Nat.le_of_eq g7.symm)
  have F_weight_b7 : Fld Z h7 b7 "com/example/stochist/stochist/histogram/WeightedPoints$Point" "weight" "D" (.double 0) := D7 (Or.inr (hw _ (List.mem_of_getElem? (i := 17) rfl))) (ty := .double) (by decide)
  have F_value_b7 : Fld Z h7 b7 "com/example/stochist/stochist/histogram/WeightedPoints$Point" "value" "D" (.double 0) := D7 (Or.inr (hw _ (List.mem_of_getElem? (i := 19) rfl))) (ty := .double) (by decide)
  have F_error_b7 : Fld Z h7 b7 "com/example/stochist/stochist/histogram/WeightedPoints$Point" "error" "D" (.double 0) := D7 (Or.inr (hw _ (List.mem_of_getElem? (i := 21) rfl))) (ty := .double) (by decide)
  have Zz_9 : n0 ≤ h7.size := (Nat.le_trans Z0 E7.1)
  obtain ⟨_, _, ⟨T8, L8, k8, n8⟩, -, X8, ⟨Lc8, hQ8, l8, y8, z8⟩, st8⟩ := X7.specialBack hx (y := (⟨"com/example/stochist/stochist/histogram/WeightedPoints$Point", "<init>", "(DDD)V"⟩ : MethodName)) rfl hown (mvT hZ (hw _ (List.mem_of_getElem? (i := 5) rfl))) (mvT hZ (hw _ (List.mem_of_getElem? (i := 6) rfl))) (mvT hZ (hw _ (List.mem_of_getElem? (i := 7) rfl))) (by decide) (backOf (W := 1) (rm1 l Z aw hw [] b7 (FP.l2d wa) (FP.l2d fa) (FP.l2d ea) h7 n0 Zz_9 A7 F_weight_b7 F_value_b7 F_error_b7 g_b7) hZ (hw _ (List.mem_of_getElem? (i := 7) rfl)) (hw _ (List.mem_of_getElem? (i := 4) rfl)) (by decide) (by decide)) (g := (mkF m 65 #[.val (.int p0), .val (.int p1), .val (.int p2), .val (.int p3), .val (.int p4), .val (.int p5), .val (.long wa), .second, .val (.long fa), .second, .val (.long ea), .second, .val (.long wb), .second, .val (.long fb), .second, .val (.long eb), .second, .unset, .unset, .unset, .unset, .unset, .unset, .unset, .unset, .unset, .unset, .unset] [(.double (FP.l2d ea)), (.double (FP.l2d fa)), (.double (FP.l2d wa)), (.ref b7), (.ref b7)])) rfl (by rw [hml]; rfl) (Steps.refl _) (a := b7) (argsL := [(.double (FP.l2d wa)), (.double (FP.l2d fa)), (.double (FP.l2d ea))]) (rest := [(.ref b7)]) (lenOf pd_rm0_0 rfl) rfl (by show 2 * 0 + _ ≤ _; exact Nat.le_of_eq rfl) (hb hby at_65) (fun _ _ => ⟨rfl, e7, (by decide : 1 + 0 ≤ _), (by decide : 3 + 0 ≤ _)⟩)
  dsimp only [Pt.U, Pt.locs, Pt.cells, Pt.slots] at X8 l8 y8 z8 st8 hQ8
  subst l8 y8 z8
  obtain ⟨rfl, N8q, K8q, F8a, F8b, F8c⟩ := hQ8
  have N8 := Fr.app N0 N8q
  have Kk_10 : Keep h0 T8.heap [] := (((Keep.refl h0 []).ext E7).trans K8q (allS (Or.inr sz_b7) all0))
  have Zz_11 : n0 ≤ T8.heap.size := (Nat.le_trans Zz_9 K8q.1)
  have Ee_12 : Exa Z T8.heap b7 "com/example/stochist/stochist/histogram/WeightedPoints$Point" := (A7.keep K8q)
  obtain ⟨T13, h13, X13, e13, E13, A13, D13, -, st13⟩ := newO X8 hx hZ hown (hw _ (List.mem_of_getElem? (i := 2) rfl)) (hw _ (List.mem_of_getElem? (i := 3) rfl)) (hw _ (List.mem_of_getElem? (i := 4) rfl)) rfl (g := (mkF m 70 #[.val (.int p0), .val (.int p1), .val (.int p2), .val (.int p3), .val (.int p4), .val (.int p5), .val (.long wa), .second, .val (.long fa), .second, .val (.long ea), .second, .val (.long wb), .second, .val (.long fb), .second, .val (.long eb), .second, .val (.ref b7), .unset, .unset, .unset, .unset, .unset, .unset, .unset, .unset, .unset, .unset] [])) rfl (hb hby at_70) (by decide) (by decide)
  obtain ⟨b13, g13⟩ : ∃ z, z = T8.heap.size := ⟨_, rfl⟩
  rw [← g13] at A13 D13 st13
  have g_b13 : n0 ≤ b13 := Nat.le_trans Zz_11 (Nat.le_of_eq g13.symm)
  have sz_b13 : h0.size ≤ b13 := Nat.le_trans Kk_10.1 (Nat.le_of_eq g13.symm)
  have ne_b7_b13 : b7 ≠ b13 := Nat.ne_of_lt (Nat.lt_of_lt_of_le Ee_12.lt (Nat.le_of_eq g13.symm))
  have F_weight_b13 : Fld Z h13 b13 "com/example/stochist/stochist/histogram/WeightedPoints$Point" "weight" "D" (.double 0) := D13 (Or.inr (hw _ (List.mem_of_getElem? (i := 17) rfl))) (ty := .double) (by decide)
  have F_value_b13 : Fld Z h13 b13 "com/example/stochist/stochist/histogram/WeightedPoints$Point" "value" "D" (.double 0) := D13 (Or.inr (hw _ (List.mem_of_getElem? (i := 19) rfl))) (ty := .double) (by decide)
  have F_error_b13 : Fld Z h13 b13 "com/example/stochist/stochist/histogram/WeightedPoints$Point" "error" "D" (.double 0) := D13 (Or.inr (hw _ (List.mem_of_getElem? (i := 21) rfl))) (ty := .double) (by decide)
  have Zz_15 : n0 ≤ h13.size := (Nat.le_trans Zz_11 E13.1)
  obtain ⟨_, _, ⟨T14, L14, k14, n14⟩, -, X14, ⟨Lc14, hQ14, l14, y14, z14⟩, st14⟩ := X13.specialBack hx (y := (⟨"com/example/stochist/stochist/histogram/WeightedPoints$Point", "<init>", "(DDD)V"⟩ : MethodName)) rfl hown (mvT hZ (hw _ (List.mem_of_getElem? (i := 5) rfl))) (mvT hZ (hw _ (List.mem_of_getElem? (i := 6) rfl))) (mvT hZ (hw _ (List.mem_of_getElem? (i := 7) rfl))) (by decide) (backOf (W := 1) (rm1 l Z aw hw [] b13 (FP.l2d wb) (FP.l2d fb) (FP.l2d eb) h13 n0 Zz_15 A13 F_weight_b13 F_value_b13 F_error_b13 g_b13) hZ (hw _ (List.mem_of_getElem? (i := 7) rfl)) (hw _ (List.mem_of_getElem? (i := 4) rfl)) (by decide) (by decide)) (g := (mkF m 83 #[.val (.int p0), .val (.int p1), .val (.int p2), .val (.int p3), .val (.int p4), .val (.int p5), .val (.long wa), .second, .val (.long fa), .second, .val (.long ea), .second, .val (.long wb), .second, .val (.long fb), .second, .val (.long eb), .second, .val (.ref b7), .unset, .unset, .unset, .unset, .unset, .unset, .unset, .unset, .unset, .unset] [(.double (FP.l2d eb)), (.double (FP.l2d fb)), (.double (FP.l2d wb)), (.ref b13), (.ref b13)])) rfl (by rw [hml]; rfl) (Steps.refl _) (a := b13) (argsL := [(.double (FP.l2d wb)), (.double (FP.l2d fb)), (.double (FP.l2d eb))]) (rest := [(.ref b13)]) (lenOf pd_rm0_0 rfl) rfl (by show 2 * 0 + _ ≤ _; exact Nat.le_of_eq rfl) (hb hby at_83) (fun _ _ => ⟨rfl, e13, (by decide : 2 + 0 ≤ _), (by decide : 6 + 0 ≤ _)⟩)
  dsimp only [Pt.U, Pt.locs, Pt.cells, Pt.slots] at X14 l14 y14 z14 st14 hQ14
  subst l14 y14 z14
  obtain ⟨rfl, N14q, K14q, F14a, F14b, F14c⟩ := hQ14
  have N14 := Fr.app N8 N14q
  have Kk_16 : Keep h0 T14.heap [] := ((Kk_10.ext E13).trans K14q (allS (Or.inr sz_b13) all0))
  have Zz_17 : n0 ≤ T14.heap.size := (Nat.le_trans Zz_15 K14q.1)
  have Ee_18 : Exa Z T14.heap b13 "com/example/stochist/stochist/histogram/WeightedPoints$Point" := (A13.keep K14q)
  have Ee_19 : Exa Z T14.heap b7 "com/example/stochist/stochist/histogram/WeightedPoints$Point" := ((Ee_12.ext E13).keep K14q)
  obtain ⟨T20, h20, X20, e20, E20, A20, D20, -, st20⟩ := newO X14 hx hZ hown (hw _ (List.mem_of_getElem? (i := 22) rfl)) (hw _ (List.mem_of_getElem? (i := 23) rfl)) (hw _ (List.mem_of_getElem? (i := 24) rfl)) rfl (g := (mkF m 88 #[.val (.int p0), .val (.int p1), .val (.int p2), .val (.int p3), .val (.int p4), .val (.int p5), .val (.long wa), .second, .val (.long fa), .second, .val (.long ea), .second, .val (.long wb), .second, .val (.long fb), .second, .val (.long eb), .second, .val (.ref b7), .val (.ref b13), .unset, .unset, .unset, .unset, .unset, .unset, .unset, .unset, .unset] [])) rfl (hb hby at_88) (by decide) (by decide)
  obtain ⟨b20, g20⟩ : ∃ z, z = T14.heap.size := ⟨_, rfl⟩
  rw [← g20] at A20 D20 st20
  have g_b20 : n0 ≤ b20 := Nat.le_trans Zz_17 (Nat.le_of_eq g20.symm)
  have sz_b20 : h0.size ≤ b20 := Nat.le_trans Kk_16.1 (Nat.le_of_eq g20.symm)
  have ne_b13_b20 : b13 ≠ b20 := Nat.ne_of_lt (Nat.lt_of_lt_of_le Ee_18.lt (Nat.le_of_eq g20.symm))
  have ne_b7_b20 : b7 ≠ b20 := Nat.ne_of_lt (Nat.lt_of_lt_of_le Ee_19.lt (Nat.le_of_eq g20.symm))
  have F_weights_b20 : Fld Z h20 b20 "com/example/stochist/stochist/histogram/WeightedPoints" "weights" "[D" .null := D20 (Or.inr (hw _ (List.mem_of_getElem? (i := 31) rfl))) (ty := (.array .double)) (by decide)
  have F_values_b20 : Fld Z h20 b20 "com/example/stochist/stochist/histogram/WeightedPoints" "values" "[D" .null := D20 (Or.inr (hw _ (List.mem_of_getElem? (i := 33) rfl))) (ty := (.array .double)) (by decide)
  have F_errors_b20 : Fld Z h20 b20 "com/example/stochist/stochist/histogram/WeightedPoints" "errors" "[D" .null := D20 (Or.inr (hw _ (List.mem_of_getElem? (i := 35) rfl))) (ty := (.array .double)) (by decide)
  have F_size_b20 : Fld Z h20 b20 "com/example/stochist/stochist/histogram/WeightedPoints" "size" "I" (.int (0 : Int32)) := D20 (Or.inl (hw _ (List.mem_of_getElem? (i := 42) rfl))) (ty := .int) (by decide)
  have Ee_22 : Exa Z h20 b13 "com/example/stochist/stochist/histogram/WeightedPoints$Point" := (Ee_18.ext E20)
  have Ee_23 : Exa Z h20 b7 "com/example/stochist/stochist/histogram/WeightedPoints$Point" := (Ee_19.ext E20)
  have Kk_24 : Keep h0 h20 [] := (Kk_16.ext E20)
  have Zz_25 : n0 ≤ h20.size := (Nat.le_trans Zz_17 E20.1)
  obtain ⟨_, _, ⟨T21, L21, k21, n21⟩, -, X21, ⟨Lc21, hQ21, l21, y21, z21⟩, st21⟩ := X20.specialBack hx (y := (⟨"com/example/stochist/stochist/histogram/WeightedPoints", "<init>", "(I)V"⟩ : MethodName)) rfl hown (mvT hZ (hw _ (List.mem_of_getElem? (i := 25) rfl))) (mvT hZ (hw _ (List.mem_of_getElem? (i := 26) rfl))) (mvT hZ (hw _ (List.mem_of_getElem? (i := 27) rfl))) (by decide) (backOf (W := 1) (rm4 l Z aw hw [] b20 h20 n0 Zz_25 A20 F_size_b20 F_weights_b20 F_values_b20 F_errors_b20 g_b20) hZ (hw _ (List.mem_of_getElem? (i := 27) rfl)) (hw _ (List.mem_of_getElem? (i := 24) rfl)) (by decide) (by decide)) (g := (mkF m 93 #[.val (.int p0), .val (.int p1), .val (.int p2), .val (.int p3), .val (.int p4), .val (.int p5), .val (.long wa), .second, .val (.long fa), .second, .val (.long ea), .second, .val (.long wb), .second, .val (.long fb), .second, .val (.long eb), .second, .val (.ref b7), .val (.ref b13), .unset, .unset, .unset, .unset, .unset, .unset, .unset, .unset, .unset] [(.int (2 : Int32)), (.ref b20), (.ref b20)])) rfl (by rw [hml]; rfl) (Steps.refl _) (a := b20) (argsL := [(.int (2 : Int32))]) (rest := [(.ref b20)]) (lenOf pd_rm0_1 rfl) rfl (by show 2 * 0 + _ ≤ _; exact Nat.le_of_eq rfl) (hb hby at_93) (fun _ _ => ⟨rfl, e20, (by decide : 3 + 3 ≤ _), (by decide : 10 + 9 ≤ _)⟩)
  dsimp only [Pt.U, Pt.locs, Pt.cells, Pt.slots] at X21 l21 y21 z21 st21 hQ21
  subst l21 y21 z21
  obtain ⟨rfl, N21q, K21q, Fz21, c1_21, c2_21, c3_21, k1_21, k2_21, k3_21, z1_21, z2_21, z3_21, ne_c1_21_c2_21, ne_c1_21_c3_21, ne_c2_21_c3_21, Fa1_21, Fa2_21, Fa3_21, Va1_21, Va2_21, Va3_21⟩ := hQ21
  have N21 := Fr.app N14 N21q
  have g_c1_21 : n0 ≤ c1_21 := Nat.le_trans Zz_25 z1_21
  have sz_c1_21 : h0.size ≤ c1_21 := Nat.le_trans Kk_24.1 z1_21
  have ne_b13_c1_21 : b13 ≠ c1_21 := Nat.ne_of_lt (Nat.lt_of_lt_of_le Ee_22.lt z1_21)
  have ne_b20_c1_21 : b20 ≠ c1_21 := Nat.ne_of_lt (Nat.lt_of_lt_of_le A20.lt z1_21)
  have ne_b7_c1_21 : b7 ≠ c1_21 := Nat.ne_of_lt (Nat.lt_of_lt_of_le Ee_23.lt z1_21)
  have g_c2_21 : n0 ≤ c2_21 := Nat.le_trans Zz_25 z2_21
  have sz_c2_21 : h0.size ≤ c2_21 := Nat.le_trans Kk_24.1 z2_21
  have ne_b13_c2_21 : b13 ≠ c2_21 := Nat.ne_of_lt (Nat.lt_of_lt_of_le Ee_22.lt z2_21)
  have ne_b20_c2_21 : b20 ≠ c2_21 := Nat.ne_of_lt (Nat.lt_of_lt_of_le A20.lt z2_21)
  have ne_b7_c2_21 : b7 ≠ c2_21 := Nat.ne_of_lt (Nat.lt_of_lt_of_le Ee_23.lt z2_21)
  have g_c3_21 : n0 ≤ c3_21 := Nat.le_trans Zz_25 z3_21
  have sz_c3_21 : h0.size ≤ c3_21 := Nat.le_trans Kk_24.1 z3_21
  have ne_b13_c3_21 : b13 ≠ c3_21 := Nat.ne_of_lt (Nat.lt_of_lt_of_le Ee_22.lt z3_21)
  have ne_b20_c3_21 : b20 ≠ c3_21 := Nat.ne_of_lt (Nat.lt_of_lt_of_le A20.lt z3_21)
  have ne_b7_c3_21 : b7 ≠ c3_21 := Nat.ne_of_lt (Nat.lt_of_lt_of_le Ee_23.lt z3_21)
  have Ee_27 : Exa Z T21.heap b20 "com/example/stochist/stochist/histogram/WeightedPoints" := (A20.keep K21q)
  have Ee_28 : Exa Z T21.heap b7 "com/example/stochist/stochist/histogram/WeightedPoints$Point" := (Ee_23.keep K21q)
  have Ff_29 : Fld Z T21.heap b7 "com/example/stochist/stochist/histogram/WeightedPoints$Point" "weight" "D" (.double (FP.l2d wa)) := ((((F8a.ext E13).keep K14q (ninS ne_b7_b13 nin0)).ext E20).keep K21q (ninS ne_b7_b20 nin0))
  have Ff_30 : Fld Z T21.heap b7 "com/example/stochist/stochist/histogram/WeightedPoints$Point" "value" "D" (.double (FP.l2d fa)) := ((((F8b.ext E13).keep K14q (ninS ne_b7_b13 nin0)).ext E20).keep K21q (ninS ne_b7_b20 nin0))
  have Ff_31 : Fld Z T21.heap b7 "com/example/stochist/stochist/histogram/WeightedPoints$Point" "error" "D" (.double (FP.l2d ea)) := ((((F8c.ext E13).keep K14q (ninS ne_b7_b13 nin0)).ext E20).keep K21q (ninS ne_b7_b20 nin0))
  have Zz_32 : n0 ≤ T21.heap.size := (Nat.le_trans Zz_25 K21q.1)
  obtain ⟨cq26, kq26, q26a, q26b, q26c⟩ := isOf hZ rfl (Ee_27)
  obtain ⟨_, _, ⟨T26, L26, k26, n26⟩, -, X26, ⟨Lc26, hQ26, l26, y26, z26⟩, st26⟩ := X21.virtualBack hx (y := (⟨"com/example/stochist/stochist/histogram/WeightedPoints", "add", "(Lcom/example/stochist/stochist/histogram/WeightedPoints$Point;)V"⟩ : MethodName)) (z := (⟨"com/example/stochist/stochist/histogram/WeightedPoints", "add", "(Lcom/example/stochist/stochist/histogram/WeightedPoints$Point;)V"⟩ : MethodName)) hown (mvT hZ (hw _ (List.mem_of_getElem? (i := 36) rfl))) (mvT hZ (hw _ (List.mem_of_getElem? (i := 37) rfl))) (notFace_of_selects (args := #[]) (mvT hZ (hw _ (List.mem_of_getElem? (i := 39) rfl)))) (mvT hZ (hw _ (List.mem_of_getElem? (i := 39) rfl))) (mvT hZ (hw _ (List.mem_of_getElem? (i := 38) rfl))) (by decide) (backOf (W := 0) (rm5_0 l Z aw hw [] b20 b7 c1_21 c2_21 c3_21 k1_21 k2_21 k3_21 (FP.l2d wa) (FP.l2d fa) (FP.l2d ea) (FP.l2d 0) (FP.l2d 0) (FP.l2d 0) (FP.l2d 0) (FP.l2d 0) (FP.l2d 0) (FP.l2d 0) (FP.l2d 0) (FP.l2d 0) T21.heap n0 Zz_32 Ee_27 Ee_28 Fz21 Fa1_21 Fa2_21 Fa3_21 Ff_29 Ff_30 Ff_31 Va1_21 Va2_21 Va3_21 (Ne.symm ne_b7_b20) ne_b20_c1_21 ne_b20_c2_21 ne_b20_c3_21 ne_b7_c1_21 ne_b7_c2_21 ne_b7_c3_21 ne_c1_21_c2_21 ne_c1_21_c3_21 ne_c2_21_c3_21 g_b20 g_c1_21 g_c2_21 g_c3_21) hZ (hw _ (List.mem_of_getElem? (i := 40) rfl)) (hw _ (List.mem_of_getElem? (i := 24) rfl)) (by decide) (by decide)) q26a q26c (g := (mkF m 102 #[.val (.int p0), .val (.int p1), .val (.int p2), .val (.int p3), .val (.int p4), .val (.int p5), .val (.long wa), .second, .val (.long fa), .second, .val (.long ea), .second, .val (.long wb), .second, .val (.long fb), .second, .val (.long eb), .second, .val (.ref b7), .val (.ref b13), .val (.ref b20), .unset, .unset, .unset, .unset, .unset, .unset, .unset, .unset] [(.ref b7), (.ref b20)])) rfl (by rw [hml]; rfl) (Steps.refl _) (argsL := [(.ref b7)]) (rest := []) (lenOf pd_rm0_2 rfl) rfl (by show 2 * 0 + _ ≤ _; exact Nat.le_of_eq rfl) (hb hby at_102) (fun _ _ => ⟨rfl, rfl, (by decide : 6 + 0 ≤ _), (by decide : 19 + 0 ≤ _)⟩)
  dsimp only [Pt.U, Pt.locs, Pt.cells, Pt.slots] at X26 l26 y26 z26 st26 hQ26
  subst l26 y26 z26
  obtain ⟨rfl, N26q, K26q, Fz26, Fa1_26, Fa2_26, Fa3_26, Va1_26, Va2_26, Va3_26⟩ := hQ26
  have N26 := Fr.app N21 N26q
  have Ee_34 : Exa Z T26.heap b20 "com/example/stochist/stochist/histogram/WeightedPoints" := (Ee_27.keep K26q)
  have Ee_35 : Exa Z T26.heap b13 "com/example/stochist/stochist/histogram/WeightedPoints$Point" := ((Ee_22.keep K21q).keep K26q)
  have Ff_36 : Fld Z T26.heap b13 "com/example/stochist/stochist/histogram/WeightedPoints$Point" "weight" "D" (.double (FP.l2d wb)) := (((F14a.ext E20).keep K21q (ninS ne_b13_b20 nin0)).keep K26q (ninS ne_b13_b20 (ninS ne_b13_c1_21 (ninS ne_b13_c2_21 (ninS ne_b13_c3_21 nin0)))))
  have Ff_37 : Fld Z T26.heap b13 "com/example/stochist/stochist/histogram/WeightedPoints$Point" "value" "D" (.double (FP.l2d fb)) := (((F14b.ext E20).keep K21q (ninS ne_b13_b20 nin0)).keep K26q (ninS ne_b13_b20 (ninS ne_b13_c1_21 (ninS ne_b13_c2_21 (ninS ne_b13_c3_21 nin0)))))
  have Ff_38 : Fld Z T26.heap b13 "com/example/stochist/stochist/histogram/WeightedPoints$Point" "error" "D" (.double (FP.l2d eb)) := (((F14c.ext E20).keep K21q (ninS ne_b13_b20 nin0)).keep K26q (ninS ne_b13_b20 (ninS ne_b13_c1_21 (ninS ne_b13_c2_21 (ninS ne_b13_c3_21 nin0)))))
  have Zz_39 : n0 ≤ T26.heap.size := (Nat.le_trans Zz_32 K26q.1)
  obtain ⟨cq33, kq33, q33a, q33b, q33c⟩ := isOf hZ rfl (Ee_34)
  obtain ⟨_, _, ⟨T33, L33, k33, n33⟩, -, X33, ⟨Lc33, hQ33, l33, y33, z33⟩, st33⟩ := X26.virtualBack hx (y := (⟨"com/example/stochist/stochist/histogram/WeightedPoints", "add", "(Lcom/example/stochist/stochist/histogram/WeightedPoints$Point;)V"⟩ : MethodName)) (z := (⟨"com/example/stochist/stochist/histogram/WeightedPoints", "add", "(Lcom/example/stochist/stochist/histogram/WeightedPoints$Point;)V"⟩ : MethodName)) hown (mvT hZ (hw _ (List.mem_of_getElem? (i := 36) rfl))) (mvT hZ (hw _ (List.mem_of_getElem? (i := 37) rfl))) (notFace_of_selects (args := #[]) (mvT hZ (hw _ (List.mem_of_getElem? (i := 39) rfl)))) (mvT hZ (hw _ (List.mem_of_getElem? (i := 39) rfl))) (mvT hZ (hw _ (List.mem_of_getElem? (i := 38) rfl))) (by decide) (backOf (W := 0) (rm5_1 l Z aw hw [] b20 b13 c1_21 c2_21 c3_21 k1_21 k2_21 k3_21 (FP.l2d wb) (FP.l2d fb) (FP.l2d eb) (FP.l2d 0) (FP.l2d wa) (FP.l2d 0) (FP.l2d 0) (FP.l2d fa) (FP.l2d 0) (FP.l2d 0) (FP.l2d ea) (FP.l2d 0) T26.heap n0 Zz_39 Ee_34 Ee_35 Fz26 Fa1_26 Fa2_26 Fa3_26 Ff_36 Ff_37 Ff_38 Va1_26 Va2_26 Va3_26 (Ne.symm ne_b13_b20) ne_b20_c1_21 ne_b20_c2_21 ne_b20_c3_21 ne_b13_c1_21 ne_b13_c2_21 ne_b13_c3_21 ne_c1_21_c2_21 ne_c1_21_c3_21 ne_c2_21_c3_21 g_b20 g_c1_21 g_c2_21 g_c3_21) hZ (hw _ (List.mem_of_getElem? (i := 40) rfl)) (hw _ (List.mem_of_getElem? (i := 24) rfl)) (by decide) (by decide)) q33a q33c (g := (mkF m 109 #[.val (.int p0), .val (.int p1), .val (.int p2), .val (.int p3), .val (.int p4), .val (.int p5), .val (.long wa), .second, .val (.long fa), .second, .val (.long ea), .second, .val (.long wb), .second, .val (.long fb), .second, .val (.long eb), .second, .val (.ref b7), .val (.ref b13), .val (.ref b20), .unset, .unset, .unset, .unset, .unset, .unset, .unset, .unset] [(.ref b13), (.ref b20)])) rfl (by rw [hml]; rfl) (Steps.refl _) (argsL := [(.ref b13)]) (rest := []) (lenOf pd_rm0_2 rfl) rfl (by show 2 * 0 + _ ≤ _; exact Nat.le_of_eq rfl) (hb hby at_109) (fun _ _ => ⟨rfl, rfl, (by decide : 6 + 0 ≤ _), (by decide : 19 + 0 ≤ _)⟩)
  dsimp only [Pt.U, Pt.locs, Pt.cells, Pt.slots] at X33 l33 y33 z33 st33 hQ33
  subst l33 y33 z33
  obtain ⟨rfl, N33q, K33q, Fz33, Fa1_33, Fa2_33, Fa3_33, Va1_33, Va2_33, Va3_33⟩ := hQ33
  have N33 := Fr.app N26 N33q
  have Zz_41 : n0 ≤ T33.heap.size := (Nat.le_trans Zz_39 K33q.1)
  have Ee_42 : Exa Z T33.heap b20 "com/example/stochist/stochist/histogram/WeightedPoints" := (Ee_34.keep K33q)
  obtain ⟨cq40, kq40, q40a, q40b, q40c⟩ := isOf hZ rfl (Ee_42)
  obtain ⟨_, _, ⟨T40, L40, k40, n40⟩, -, X40, ⟨Lc40, hQ40, l40, y40, z40⟩, st40⟩ := X33.virtualBack hx (y := (⟨"com/example/stochist/stochist/histogram/WeightedPoints", "costAtZero", "(I)D"⟩ : MethodName)) (z := (⟨"com/example/stochist/stochist/histogram/WeightedPoints", "costAtZero", "(I)D"⟩ : MethodName)) hown (mvT hZ (hw _ (List.mem_of_getElem? (i := 58) rfl))) (mvT hZ (hw _ (List.mem_of_getElem? (i := 59) rfl))) (notFace_of_selects (args := #[]) (mvT hZ (hw _ (List.mem_of_getElem? (i := 61) rfl)))) (mvT hZ (hw _ (List.mem_of_getElem? (i := 61) rfl))) (mvT hZ (hw _ (List.mem_of_getElem? (i := 60) rfl))) (by decide) (backOf (W := 0) (rm9_1 l Z aw hw [] b20 wa fa ea c1_21 c2_21 c3_21 k1_21 k2_21 k3_21 (FP.l2d 0) (FP.l2d wb) (FP.l2d 0) (FP.l2d fb) (FP.l2d 0) (FP.l2d eb) T33.heap n0 Zz_41 Fa1_33 Fa2_33 Fa3_33 Va1_33 Va2_33 Va3_33 (own_dbl1).1 (own_dbl1).2.1 (own_dbl1).2.2) hZ (hw _ (List.mem_of_getElem? (i := 62) rfl)) (hw _ (List.mem_of_getElem? (i := 24) rfl)) (by decide) (by decide)) q40a q40c (g := (mkF m 115 #[.val (.int p0), .val (.int p1), .val (.int p2), .val (.int p3), .val (.int p4), .val (.int p5), .val (.long wa), .second, .val (.long fa), .second, .val (.long ea), .second, .val (.long wb), .second, .val (.long fb), .second, .val (.long eb), .second, .val (.ref b7), .val (.ref b13), .val (.ref b20), .unset, .unset, .unset, .unset, .unset, .unset, .unset, .unset] [(.int (1 : Int32)), (.ref b20)])) rfl (by rw [hml]; rfl) (Steps.refl _) (argsL := [(.int (1 : Int32))]) (rest := []) (lenOf pd_rm0_3 rfl) rfl (by show 2 * 0 + _ ≤ _; exact Nat.le_of_eq rfl) (hb hby at_115) (fun _ _ => ⟨rfl, rfl, (by decide : 6 + 0 ≤ _), (by decide : 19 + 0 ≤ _)⟩)
  dsimp only [Pt.U, Pt.locs, Pt.cells, Pt.slots] at X40 l40 y40 z40 st40 hQ40
  subst l40 y40 z40
  obtain ⟨rfl, N40q, e40q⟩ := hQ40
  have N40 := Fr.app N33 N40q
  obtain ⟨cq43, kq43, q43a, q43b, q43c⟩ := isOf hZ e40q (Ee_42)
  obtain ⟨_, _, ⟨T43, L43, k43, n43⟩, -, X43, ⟨Lc43, hQ43, l43, y43, z43⟩, st43⟩ := X40.virtualBack hx (y := (⟨"com/example/stochist/stochist/histogram/WeightedPoints", "costAtZero", "(I)D"⟩ : MethodName)) (z := (⟨"com/example/stochist/stochist/histogram/WeightedPoints", "costAtZero", "(I)D"⟩ : MethodName)) hown (mvT hZ (hw _ (List.mem_of_getElem? (i := 58) rfl))) (mvT hZ (hw _ (List.mem_of_getElem? (i := 59) rfl))) (notFace_of_selects (args := #[]) (mvT hZ (hw _ (List.mem_of_getElem? (i := 61) rfl)))) (mvT hZ (hw _ (List.mem_of_getElem? (i := 61) rfl))) (mvT hZ (hw _ (List.mem_of_getElem? (i := 60) rfl))) (by decide) (backOf (W := 0) (rm9_2 l Z aw hw [] b20 wb fb eb c1_21 c2_21 c3_21 k1_21 k2_21 k3_21 (FP.l2d 0) (FP.l2d wa) (FP.l2d 0) (FP.l2d fa) (FP.l2d 0) (FP.l2d ea) T33.heap n0 Zz_41 Fa1_33 Fa2_33 Fa3_33 Va1_33 Va2_33 Va3_33 (own_dbl2).1 (own_dbl2).2.1 (own_dbl2).2.2) hZ (hw _ (List.mem_of_getElem? (i := 62) rfl)) (hw _ (List.mem_of_getElem? (i := 24) rfl)) (by decide) (by decide)) q43a q43c (g := (mkF m 123 #[.val (.int p0), .val (.int p1), .val (.int p2), .val (.int p3), .val (.int p4), .val (.int p5), .val (.long wa), .second, .val (.long fa), .second, .val (.long ea), .second, .val (.long wb), .second, .val (.long fb), .second, .val (.long eb), .second, .val (.ref b7), .val (.ref b13), .val (.ref b20), .val (.double (FP.l2d (ea + ((wa * fa) * fa)))), .second, .unset, .unset, .unset, .unset, .unset, .unset] [(.int (2 : Int32)), (.ref b20)])) rfl (by rw [hml]; rfl) (Steps.refl _) (argsL := [(.int (2 : Int32))]) (rest := []) (lenOf pd_rm0_3 rfl) rfl (by show 2 * 0 + _ ≤ _; exact Nat.le_of_eq rfl) (hb hby at_123) (fun _ _ => ⟨rfl, e40q, (by decide : 6 + 0 ≤ _), (by decide : 19 + 0 ≤ _)⟩)
  dsimp only [Pt.U, Pt.locs, Pt.cells, Pt.slots] at X43 l43 y43 z43 st43 hQ43
  subst l43 y43 z43
  obtain ⟨rfl, N43q, e43q⟩ := hQ43
  have N43 := Fr.app N40 N43q
  obtain ⟨fs, hr, hrun, hended, hW, hsame⟩ := X43.leave (v := some (.int (1 : Int32))) (fun h => by rw [Bd.returns] at h; cases h)
  refine ⟨_, _, pre6 _ ?_, hrun, hended, _, _, rfl, ?_, ⟨_, rfl⟩, hW, hsame.mono (by decide) (by decide)⟩
  · show Steps p.tables e below (s₁.setTop (mkF m 50 #[.val (.int p0), .val (.int p1), .val (.int p2), .val (.int p3), .val (.int p4), .val (.int p5), .val (.long wa), .second, .val (.long fa), .second, .val (.long ea), .second, .val (.long wb), .second, .val (.long fb), .second, .unset, .unset, .unset, .unset, .unset, .unset, .unset, .unset, .unset, .unset, .unset, .unset, .unset] [(.long eb)])) _
    refine XS.lstore X0.here hx rfl (hb hby at_50) rfl (l' := #[.val (.int p0), .val (.int p1), .val (.int p2), .val (.int p3), .val (.int p4), .val (.int p5), .val (.long wa), .second, .val (.long fa), .second, .val (.long ea), .second, .val (.long wb), .second, .val (.long fb), .second, .val (.long eb), .second, .unset, .unset, .unset, .unset, .unset, .unset, .unset, .unset, .unset, .unset, .unset]) rfl ?_
    show Steps p.tables e below (s₁.setTop (mkF m 52 #[.val (.int p0), .val (.int p1), .val (.int p2), .val (.int p3), .val (.int p4), .val (.int p5), .val (.long wa), .second, .val (.long fa), .second, .val (.long ea), .second, .val (.long wb), .second, .val (.long fb), .second, .val (.long eb), .second, .unset, .unset, .unset, .unset, .unset, .unset, .unset, .unset, .unset, .unset, .unset] [])) _
    refine st7 _ ?_
    show Steps p.tables e below (T7.setTop (mkF m 55 #[.val (.int p0), .val (.int p1), .val (.int p2), .val (.int p3), .val (.int p4), .val (.int p5), .val (.long wa), .second, .val (.long fa), .second, .val (.long ea), .second, .val (.long wb), .second, .val (.long fb), .second, .val (.long eb), .second, .unset, .unset, .unset, .unset, .unset, .unset, .unset, .unset, .unset, .unset, .unset] [(.ref b7)])) _
    refine XS.dup X7.here hx rfl (hb hby at_55) rfl rfl ?_
    show Steps p.tables e below (T7.setTop (mkF m 56 #[.val (.int p0), .val (.int p1), .val (.int p2), .val (.int p3), .val (.int p4), .val (.int p5), .val (.long wa), .second, .val (.long fa), .second, .val (.long ea), .second, .val (.long wb), .second, .val (.long fb), .second, .val (.long eb), .second, .unset, .unset, .unset, .unset, .unset, .unset, .unset, .unset, .unset, .unset, .unset] [(.ref b7), (.ref b7)])) _
    refine XS.lload X7.here hx rfl (hb hby at_56) rfl ?_
    show Steps p.tables e below (T7.setTop (mkF m 58 #[.val (.int p0), .val (.int p1), .val (.int p2), .val (.int p3), .val (.int p4), .val (.int p5), .val (.long wa), .second, .val (.long fa), .second, .val (.long ea), .second, .val (.long wb), .second, .val (.long fb), .second, .val (.long eb), .second, .unset, .unset, .unset, .unset, .unset, .unset, .unset, .unset, .unset, .unset, .unset] [(.long wa), (.ref b7), (.ref b7)])) _
    refine XS.l2dS X7.here hx rfl (hb hby at_58) rfl rfl ?_
    show Steps p.tables e below (T7.setTop (mkF m 59 #[.val (.int p0), .val (.int p1), .val (.int p2), .val (.int p3), .val (.int p4), .val (.int p5), .val (.long wa), .second, .val (.long fa), .second, .val (.long ea), .second, .val (.long wb), .second, .val (.long fb), .second, .val (.long eb), .second, .unset, .unset, .unset, .unset, .unset, .unset, .unset, .unset, .unset, .unset, .unset] [(.double (FP.l2d wa)), (.ref b7), (.ref b7)])) _
    refine XS.lload X7.here hx rfl (hb hby at_59) rfl ?_
    show Steps p.tables e below (T7.setTop (mkF m 61 #[.val (.int p0), .val (.int p1), .val (.int p2), .val (.int p3), .val (.int p4), .val (.int p5), .val (.long wa), .second, .val (.long fa), .second, .val (.long ea), .second, .val (.long wb), .second, .val (.long fb), .second, .val (.long eb), .second, .unset, .unset, .unset, .unset, .unset, .unset, .unset, .unset, .unset, .unset, .unset] [(.long fa), (.double (FP.l2d wa)), (.ref b7), (.ref b7)])) _
    refine XS.l2dS X7.here hx rfl (hb hby at_61) rfl rfl ?_
    show Steps p.tables e below (T7.setTop (mkF m 62 #[.val (.int p0), .val (.int p1), .val (.int p2), .val (.int p3), .val (.int p4), .val (.int p5), .val (.long wa), .second, .val (.long fa), .second, .val (.long ea), .second, .val (.long wb), .second, .val (.long fb), .second, .val (.long eb), .second, .unset, .unset, .unset, .unset, .unset, .unset, .unset, .unset, .unset, .unset, .unset] [(.double (FP.l2d fa)), (.double (FP.l2d wa)), (.ref b7), (.ref b7)])) _
    refine XS.lload X7.here hx rfl (hb hby at_62) rfl ?_
    show Steps p.tables e below (T7.setTop (mkF m 64 #[.val (.int p0), .val (.int p1), .val (.int p2), .val (.int p3), .val (.int p4), .val (.int p5), .val (.long wa), .second, .val (.long fa), .second, .val (.long ea), .second, .val (.long wb), .second, .val (.long fb), .second, .val (.long eb), .second, .unset, .unset, .unset, .unset, .unset, .unset, .unset, .unset, .unset, .unset, .unset] [(.long ea), (.double (FP.l2d fa)), (.double (FP.l2d wa)), (.ref b7), (.ref b7)])) _
    refine XS.l2dS X7.here hx rfl (hb hby at_64) rfl rfl ?_
    show Steps p.tables e below (T7.setTop (mkF m 65 #[.val (.int p0), .val (.int p1), .val (.int p2), .val (.int p3), .val (.int p4), .val (.int p5), .val (.long wa), .second, .val (.long fa), .second, .val (.long ea), .second, .val (.long wb), .second, .val (.long fb), .second, .val (.long eb), .second, .unset, .unset, .unset, .unset, .unset, .unset, .unset, .unset, .unset, .unset, .unset] [(.double (FP.l2d ea)), (.double (FP.l2d fa)), (.double (FP.l2d wa)), (.ref b7), (.ref b7)])) _
    refine st8.trans ?_
    show Steps p.tables e below (T8.setTop (mkF m 68 #[.val (.int p0), .val (.int p1), .val (.int p2), .val (.int p3), .val (.int p4), .val (.int p5), .val (.long wa), .second, .val (.long fa), .second, .val (.long ea), .second, .val (.long wb), .second, .val (.long fb), .second, .val (.long eb), .second, .unset, .unset, .unset, .unset, .unset, .unset, .unset, .unset, .unset, .unset, .unset] [(.ref b7)])) _
    refine XS.astore X8.here hx rfl (hb hby at_68) rfl rfl (l' := #[.val (.int p0), .val (.int p1), .val (.int p2), .val (.int p3), .val (.int p4), .val (.int p5), .val (.long wa), .second, .val (.long fa), .second, .val (.long ea), .second, .val (.long wb), .second, .val (.long fb), .second, .val (.long eb), .second, .val (.ref b7), .unset, .unset, .unset, .unset, .unset, .unset, .unset, .unset, .unset, .unset]) rfl ?_
    show Steps p.tables e below (T8.setTop (mkF m 70 #[.val (.int p0), .val (.int p1), .val (.int p2), .val (.int p3), .val (.int p4), .val (.int p5), .val (.long wa), .second, .val (.long fa), .second, .val (.long ea), .second, .val (.long wb), .second, .val (.long fb), .second, .val (.long eb), .second, .val (.ref b7), .unset, .unset, .unset, .unset, .unset, .unset, .unset, .unset, .unset, .unset] [])) _
    refine st13 _ ?_
    show Steps p.tables e below (T13.setTop (mkF m 73 #[.val (.int p0), .val (.int p1), .val (.int p2), .val (.int p3), .val (.int p4), .val (.int p5), .val (.long wa), .second, .val (.long fa), .second, .val (.long ea), .second, .val (.long wb), .second, .val (.long fb), .second, .val (.long eb), .second, .val (.ref b7), .unset, .unset, .unset, .unset, .unset, .unset, .unset, .unset, .unset, .unset] [(.ref b13)])) _
    refine XS.dup X13.here hx rfl (hb hby at_73) rfl rfl ?_
    show Steps p.tables e below (T13.setTop (mkF m 74 #[.val (.int p0), .val (.int p1), .val (.int p2), .val (.int p3), .val (.int p4), .val (.int p5), .val (.long wa), .second, .val (.long fa), .second, .val (.long ea), .second, .val (.long wb), .second, .val (.long fb), .second, .val (.long eb), .second, .val (.ref b7), .unset, .unset, .unset, .unset, .unset, .unset, .unset, .unset, .unset, .unset] [(.ref b13), (.ref b13)])) _
    refine XS.lload X13.here hx rfl (hb hby at_74) rfl ?_
    show Steps p.tables e below (T13.setTop (mkF m 76 #[.val (.int p0), .val (.int p1), .val (.int p2), .val (.int p3), .val (.int p4), .val (.int p5), .val (.long wa), .second, .val (.long fa), .second, .val (.long ea), .second, .val (.long wb), .second, .val (.long fb), .second, .val (.long eb), .second, .val (.ref b7), .unset, .unset, .unset, .unset, .unset, .unset, .unset, .unset, .unset, .unset] [(.long wb), (.ref b13), (.ref b13)])) _
    refine XS.l2dS X13.here hx rfl (hb hby at_76) rfl rfl ?_
    show Steps p.tables e below (T13.setTop (mkF m 77 #[.val (.int p0), .val (.int p1), .val (.int p2), .val (.int p3), .val (.int p4), .val (.int p5), .val (.long wa), .second, .val (.long fa), .second, .val (.long ea), .second, .val (.long wb), .second, .val (.long fb), .second, .val (.long eb), .second, .val (.ref b7), .unset, .unset, .unset, .unset, .unset, .unset, .unset, .unset, .unset, .unset] [(.double (FP.l2d wb)), (.ref b13), (.ref b13)])) _
    refine XS.lload X13.here hx rfl (hb hby at_77) rfl ?_
    show Steps p.tables e below (T13.setTop (mkF m 79 #[.val (.int p0), .val (.int p1), .val (.int p2), .val (.int p3), .val (.int p4), .val (.int p5), .val (.long wa), .second, .val (.long fa), .second, .val (.long ea), .second, .val (.long wb), .second, .val (.long fb), .second, .val (.long eb), .second, .val (.ref b7), .unset, .unset, .unset, .unset, .unset, .unset, .unset, .unset, .unset, .unset] [(.long fb), (.double (FP.l2d wb)), (.ref b13), (.ref b13)])) _
    refine XS.l2dS X13.here hx rfl (hb hby at_79) rfl rfl ?_
    show Steps p.tables e below (T13.setTop (mkF m 80 #[.val (.int p0), .val (.int p1), .val (.int p2), .val (.int p3), .val (.int p4), .val (.int p5), .val (.long wa), .second, .val (.long fa), .second, .val (.long ea), .second, .val (.long wb), .second, .val (.long fb), .second, .val (.long eb), .second, .val (.ref b7), .unset, .unset, .unset, .unset, .unset, .unset, .unset, .unset, .unset, .unset] [(.double (FP.l2d fb)), (.double (FP.l2d wb)), (.ref b13), (.ref b13)])) _
    refine XS.lload X13.here hx rfl (hb hby at_80) rfl ?_
    show Steps p.tables e below (T13.setTop (mkF m 82 #[.val (.int p0), .val (.int p1), .val (.int p2), .val (.int p3), .val (.int p4), .val (.int p5), .val (.long wa), .second, .val (.long fa), .second, .val (.long ea), .second, .val (.long wb), .second, .val (.long fb), .second, .val (.long eb), .second, .val (.ref b7), .unset, .unset, .unset, .unset, .unset, .unset, .unset, .unset, .unset, .unset] [(.long eb), (.double (FP.l2d fb)), (.double (FP.l2d wb)), (.ref b13), (.ref b13)])) _
    refine XS.l2dS X13.here hx rfl (hb hby at_82) rfl rfl ?_
    show Steps p.tables e below (T13.setTop (mkF m 83 #[.val (.int p0), .val (.int p1), .val (.int p2), .val (.int p3), .val (.int p4), .val (.int p5), .val (.long wa), .second, .val (.long fa), .second, .val (.long ea), .second, .val (.long wb), .second, .val (.long fb), .second, .val (.long eb), .second, .val (.ref b7), .unset, .unset, .unset, .unset, .unset, .unset, .unset, .unset, .unset, .unset] [(.double (FP.l2d eb)), (.double (FP.l2d fb)), (.double (FP.l2d wb)), (.ref b13), (.ref b13)])) _
    refine st14.trans ?_
    show Steps p.tables e below (T14.setTop (mkF m 86 #[.val (.int p0), .val (.int p1), .val (.int p2), .val (.int p3), .val (.int p4), .val (.int p5), .val (.long wa), .second, .val (.long fa), .second, .val (.long ea), .second, .val (.long wb), .second, .val (.long fb), .second, .val (.long eb), .second, .val (.ref b7), .unset, .unset, .unset, .unset, .unset, .unset, .unset, .unset, .unset, .unset] [(.ref b13)])) _
    refine XS.astore X14.here hx rfl (hb hby at_86) rfl rfl (l' := #[.val (.int p0), .val (.int p1), .val (.int p2), .val (.int p3), .val (.int p4), .val (.int p5), .val (.long wa), .second, .val (.long fa), .second, .val (.long ea), .second, .val (.long wb), .second, .val (.long fb), .second, .val (.long eb), .second, .val (.ref b7), .val (.ref b13), .unset, .unset, .unset, .unset, .unset, .unset, .unset, .unset, .unset]) rfl ?_
    show Steps p.tables e below (T14.setTop (mkF m 88 #[.val (.int p0), .val (.int p1), .val (.int p2), .val (.int p3), .val (.int p4), .val (.int p5), .val (.long wa), .second, .val (.long fa), .second, .val (.long ea), .second, .val (.long wb), .second, .val (.long fb), .second, .val (.long eb), .second, .val (.ref b7), .val (.ref b13), .unset, .unset, .unset, .unset, .unset, .unset, .unset, .unset, .unset] [])) _
    refine st20 _ ?_
    show Steps p.tables e below (T20.setTop (mkF m 91 #[.val (.int p0), .val (.int p1), .val (.int p2), .val (.int p3), .val (.int p4), .val (.int p5), .val (.long wa), .second, .val (.long fa), .second, .val (.long ea), .second, .val (.long wb), .second, .val (.long fb), .second, .val (.long eb), .second, .val (.ref b7), .val (.ref b13), .unset, .unset, .unset, .unset, .unset, .unset, .unset, .unset, .unset] [(.ref b20)])) _
    refine XS.dup X20.here hx rfl (hb hby at_91) rfl rfl ?_
    show Steps p.tables e below (T20.setTop (mkF m 92 #[.val (.int p0), .val (.int p1), .val (.int p2), .val (.int p3), .val (.int p4), .val (.int p5), .val (.long wa), .second, .val (.long fa), .second, .val (.long ea), .second, .val (.long wb), .second, .val (.long fb), .second, .val (.long eb), .second, .val (.ref b7), .val (.ref b13), .unset, .unset, .unset, .unset, .unset, .unset, .unset, .unset, .unset] [(.ref b20), (.ref b20)])) _
    refine XS.iconst X20.here hx rfl (hb hby at_92) ?_
    show Steps p.tables e below (T20.setTop (mkF m 93 #[.val (.int p0), .val (.int p1), .val (.int p2), .val (.int p3), .val (.int p4), .val (.int p5), .val (.long wa), .second, .val (.long fa), .second, .val (.long ea), .second, .val (.long wb), .second, .val (.long fb), .second, .val (.long eb), .second, .val (.ref b7), .val (.ref b13), .unset, .unset, .unset, .unset, .unset, .unset, .unset, .unset, .unset] [(.int (2 : Int32)), (.ref b20), (.ref b20)])) _
    refine st21.trans ?_
    show Steps p.tables e below (T21.setTop (mkF m 96 #[.val (.int p0), .val (.int p1), .val (.int p2), .val (.int p3), .val (.int p4), .val (.int p5), .val (.long wa), .second, .val (.long fa), .second, .val (.long ea), .second, .val (.long wb), .second, .val (.long fb), .second, .val (.long eb), .second, .val (.ref b7), .val (.ref b13), .unset, .unset, .unset, .unset, .unset, .unset, .unset, .unset, .unset] [(.ref b20)])) _
    refine XS.astore X21.here hx rfl (hb hby at_96) rfl rfl (l' := #[.val (.int p0), .val (.int p1), .val (.int p2), .val (.int p3), .val (.int p4), .val (.int p5), .val (.long wa), .second, .val (.long fa), .second, .val (.long ea), .second, .val (.long wb), .second, .val (.long fb), .second, .val (.long eb), .second, .val (.ref b7), .val (.ref b13), .val (.ref b20), .unset, .unset, .unset, .unset, .unset, .unset, .unset, .unset]) rfl ?_
    show Steps p.tables e below (T21.setTop (mkF m 98 #[.val (.int p0), .val (.int p1), .val (.int p2), .val (.int p3), .val (.int p4), .val (.int p5), .val (.long wa), .second, .val (.long fa), .second, .val (.long ea), .second, .val (.long wb), .second, .val (.long fb), .second, .val (.long eb), .second, .val (.ref b7), .val (.ref b13), .val (.ref b20), .unset, .unset, .unset, .unset, .unset, .unset, .unset, .unset] [])) _
    refine XS.aload X21.here hx rfl (hb hby at_98) rfl rfl ?_
    show Steps p.tables e below (T21.setTop (mkF m 100 #[.val (.int p0), .val (.int p1), .val (.int p2), .val (.int p3), .val (.int p4), .val (.int p5), .val (.long wa), .second, .val (.long fa), .second, .val (.long ea), .second, .val (.long wb), .second, .val (.long fb), .second, .val (.long eb), .second, .val (.ref b7), .val (.ref b13), .val (.ref b20), .unset, .unset, .unset, .unset, .unset, .unset, .unset, .unset] [(.ref b20)])) _
    refine XS.aload X21.here hx rfl (hb hby at_100) rfl rfl ?_
    show Steps p.tables e below (T21.setTop (mkF m 102 #[.val (.int p0), .val (.int p1), .val (.int p2), .val (.int p3), .val (.int p4), .val (.int p5), .val (.long wa), .second, .val (.long fa), .second, .val (.long ea), .second, .val (.long wb), .second, .val (.long fb), .second, .val (.long eb), .second, .val (.ref b7), .val (.ref b13), .val (.ref b20), .unset, .unset, .unset, .unset, .unset, .unset, .unset, .unset] [(.ref b7), (.ref b20)])) _
    refine st26.trans ?_
    show Steps p.tables e below (T26.setTop (mkF m 105 #[.val (.int p0), .val (.int p1), .val (.int p2), .val (.int p3), .val (.int p4), .val (.int p5), .val (.long wa), .second, .val (.long fa), .second, .val (.long ea), .second, .val (.long wb), .second, .val (.long fb), .second, .val (.long eb), .second, .val (.ref b7), .val (.ref b13), .val (.ref b20), .unset, .unset, .unset, .unset, .unset, .unset, .unset, .unset] [])) _
    refine XS.aload X26.here hx rfl (hb hby at_105) rfl rfl ?_
    show Steps p.tables e below (T26.setTop (mkF m 107 #[.val (.int p0), .val (.int p1), .val (.int p2), .val (.int p3), .val (.int p4), .val (.int p5), .val (.long wa), .second, .val (.long fa), .second, .val (.long ea), .second, .val (.long wb), .second, .val (.long fb), .second, .val (.long eb), .second, .val (.ref b7), .val (.ref b13), .val (.ref b20), .unset, .unset, .unset, .unset, .unset, .unset, .unset, .unset] [(.ref b20)])) _
    refine XS.aload X26.here hx rfl (hb hby at_107) rfl rfl ?_
    show Steps p.tables e below (T26.setTop (mkF m 109 #[.val (.int p0), .val (.int p1), .val (.int p2), .val (.int p3), .val (.int p4), .val (.int p5), .val (.long wa), .second, .val (.long fa), .second, .val (.long ea), .second, .val (.long wb), .second, .val (.long fb), .second, .val (.long eb), .second, .val (.ref b7), .val (.ref b13), .val (.ref b20), .unset, .unset, .unset, .unset, .unset, .unset, .unset, .unset] [(.ref b13), (.ref b20)])) _
    refine st33.trans ?_
    show Steps p.tables e below (T33.setTop (mkF m 112 #[.val (.int p0), .val (.int p1), .val (.int p2), .val (.int p3), .val (.int p4), .val (.int p5), .val (.long wa), .second, .val (.long fa), .second, .val (.long ea), .second, .val (.long wb), .second, .val (.long fb), .second, .val (.long eb), .second, .val (.ref b7), .val (.ref b13), .val (.ref b20), .unset, .unset, .unset, .unset, .unset, .unset, .unset, .unset] [])) _
    refine XS.aload X33.here hx rfl (hb hby at_112) rfl rfl ?_
    show Steps p.tables e below (T33.setTop (mkF m 114 #[.val (.int p0), .val (.int p1), .val (.int p2), .val (.int p3), .val (.int p4), .val (.int p5), .val (.long wa), .second, .val (.long fa), .second, .val (.long ea), .second, .val (.long wb), .second, .val (.long fb), .second, .val (.long eb), .second, .val (.ref b7), .val (.ref b13), .val (.ref b20), .unset, .unset, .unset, .unset, .unset, .unset, .unset, .unset] [(.ref b20)])) _
    refine XS.iconst X33.here hx rfl (hb hby at_114) ?_
    show Steps p.tables e below (T33.setTop (mkF m 115 #[.val (.int p0), .val (.int p1), .val (.int p2), .val (.int p3), .val (.int p4), .val (.int p5), .val (.long wa), .second, .val (.long fa), .second, .val (.long ea), .second, .val (.long wb), .second, .val (.long fb), .second, .val (.long eb), .second, .val (.ref b7), .val (.ref b13), .val (.ref b20), .unset, .unset, .unset, .unset, .unset, .unset, .unset, .unset] [(.int (1 : Int32)), (.ref b20)])) _
    refine st40.trans ?_
    show Steps p.tables e below (T40.setTop (mkF m 118 #[.val (.int p0), .val (.int p1), .val (.int p2), .val (.int p3), .val (.int p4), .val (.int p5), .val (.long wa), .second, .val (.long fa), .second, .val (.long ea), .second, .val (.long wb), .second, .val (.long fb), .second, .val (.long eb), .second, .val (.ref b7), .val (.ref b13), .val (.ref b20), .unset, .unset, .unset, .unset, .unset, .unset, .unset, .unset] [(.double (FP.l2d (ea + ((wa * fa) * fa))))])) _
    refine XS.dstore X40.here hx rfl (hb hby at_118) rfl (l' := #[.val (.int p0), .val (.int p1), .val (.int p2), .val (.int p3), .val (.int p4), .val (.int p5), .val (.long wa), .second, .val (.long fa), .second, .val (.long ea), .second, .val (.long wb), .second, .val (.long fb), .second, .val (.long eb), .second, .val (.ref b7), .val (.ref b13), .val (.ref b20), .val (.double (FP.l2d (ea + ((wa * fa) * fa)))), .second, .unset, .unset, .unset, .unset, .unset, .unset]) rfl ?_
    show Steps p.tables e below (T40.setTop (mkF m 120 #[.val (.int p0), .val (.int p1), .val (.int p2), .val (.int p3), .val (.int p4), .val (.int p5), .val (.long wa), .second, .val (.long fa), .second, .val (.long ea), .second, .val (.long wb), .second, .val (.long fb), .second, .val (.long eb), .second, .val (.ref b7), .val (.ref b13), .val (.ref b20), .val (.double (FP.l2d (ea + ((wa * fa) * fa)))), .second, .unset, .unset, .unset, .unset, .unset, .unset] [])) _
    refine XS.aload X40.here hx rfl (hb hby at_120) rfl rfl ?_
    show Steps p.tables e below (T40.setTop (mkF m 122 #[.val (.int p0), .val (.int p1), .val (.int p2), .val (.int p3), .val (.int p4), .val (.int p5), .val (.long wa), .second, .val (.long fa), .second, .val (.long ea), .second, .val (.long wb), .second, .val (.long fb), .second, .val (.long eb), .second, .val (.ref b7), .val (.ref b13), .val (.ref b20), .val (.double (FP.l2d (ea + ((wa * fa) * fa)))), .second, .unset, .unset, .unset, .unset, .unset, .unset] [(.ref b20)])) _
    refine XS.iconst X40.here hx rfl (hb hby at_122) ?_
    show Steps p.tables e below (T40.setTop (mkF m 123 #[.val (.int p0), .val (.int p1), .val (.int p2), .val (.int p3), .val (.int p4), .val (.int p5), .val (.long wa), .second, .val (.long fa), .second, .val (.long ea), .second, .val (.long wb), .second, .val (.long fb), .second, .val (.long eb), .second, .val (.ref b7), .val (.ref b13), .val (.ref b20), .val (.double (FP.l2d (ea + ((wa * fa) * fa)))), .second, .unset, .unset, .unset, .unset, .unset, .unset] [(.int (2 : Int32)), (.ref b20)])) _
    refine st43.trans ?_
    show Steps p.tables e below (T43.setTop (mkF m 126 #[.val (.int p0), .val (.int p1), .val (.int p2), .val (.int p3), .val (.int p4), .val (.int p5), .val (.long wa), .second, .val (.long fa), .second, .val (.long ea), .second, .val (.long wb), .second, .val (.long fb), .second, .val (.long eb), .second, .val (.ref b7), .val (.ref b13), .val (.ref b20), .val (.double (FP.l2d (ea + ((wa * fa) * fa)))), .second, .unset, .unset, .unset, .unset, .unset, .unset] [(.double (FP.l2d (eb + ((wb * fb) * fb))))])) _
    refine XS.dstore X43.here hx rfl (hb hby at_126) rfl (l' := #[.val (.int p0), .val (.int p1), .val (.int p2), .val (.int p3), .val (.int p4), .val (.int p5), .val (.long wa), .second, .val (.long fa), .second, .val (.long ea), .second, .val (.long wb), .second, .val (.long fb), .second, .val (.long eb), .second, .val (.ref b7), .val (.ref b13), .val (.ref b20), .val (.double (FP.l2d (ea + ((wa * fa) * fa)))), .second, .val (.double (FP.l2d (eb + ((wb * fb) * fb)))), .second, .unset, .unset, .unset, .unset]) rfl ?_
    show Steps p.tables e below (T43.setTop (mkF m 128 #[.val (.int p0), .val (.int p1), .val (.int p2), .val (.int p3), .val (.int p4), .val (.int p5), .val (.long wa), .second, .val (.long fa), .second, .val (.long ea), .second, .val (.long wb), .second, .val (.long fb), .second, .val (.long eb), .second, .val (.ref b7), .val (.ref b13), .val (.ref b20), .val (.double (FP.l2d (ea + ((wa * fa) * fa)))), .second, .val (.double (FP.l2d (eb + ((wb * fb) * fb)))), .second, .unset, .unset, .unset, .unset] [])) _
    refine XS.lload X43.here hx rfl (hb hby at_128) rfl ?_
    show Steps p.tables e below (T43.setTop (mkF m 130 #[.val (.int p0), .val (.int p1), .val (.int p2), .val (.int p3), .val (.int p4), .val (.int p5), .val (.long wa), .second, .val (.long fa), .second, .val (.long ea), .second, .val (.long wb), .second, .val (.long fb), .second, .val (.long eb), .second, .val (.ref b7), .val (.ref b13), .val (.ref b20), .val (.double (FP.l2d (ea + ((wa * fa) * fa)))), .second, .val (.double (FP.l2d (eb + ((wb * fb) * fb)))), .second, .unset, .unset, .unset, .unset] [(.long ea)])) _
    refine XS.lload X43.here hx rfl (hb hby at_130) rfl ?_
    show Steps p.tables e below (T43.setTop (mkF m 132 #[.val (.int p0), .val (.int p1), .val (.int p2), .val (.int p3), .val (.int p4), .val (.int p5), .val (.long wa), .second, .val (.long fa), .second, .val (.long ea), .second, .val (.long wb), .second, .val (.long fb), .second, .val (.long eb), .second, .val (.ref b7), .val (.ref b13), .val (.ref b20), .val (.double (FP.l2d (ea + ((wa * fa) * fa)))), .second, .val (.double (FP.l2d (eb + ((wb * fb) * fb)))), .second, .unset, .unset, .unset, .unset] [(.long wa), (.long ea)])) _
    refine XS.lload X43.here hx rfl (hb hby at_132) rfl ?_
    show Steps p.tables e below (T43.setTop (mkF m 134 #[.val (.int p0), .val (.int p1), .val (.int p2), .val (.int p3), .val (.int p4), .val (.int p5), .val (.long wa), .second, .val (.long fa), .second, .val (.long ea), .second, .val (.long wb), .second, .val (.long fb), .second, .val (.long eb), .second, .val (.ref b7), .val (.ref b13), .val (.ref b20), .val (.double (FP.l2d (ea + ((wa * fa) * fa)))), .second, .val (.double (FP.l2d (eb + ((wb * fb) * fb)))), .second, .unset, .unset, .unset, .unset] [(.long fa), (.long wa), (.long ea)])) _
    refine XS.lmul X43.here hx rfl (hb hby at_134) rfl ?_
    show Steps p.tables e below (T43.setTop (mkF m 135 #[.val (.int p0), .val (.int p1), .val (.int p2), .val (.int p3), .val (.int p4), .val (.int p5), .val (.long wa), .second, .val (.long fa), .second, .val (.long ea), .second, .val (.long wb), .second, .val (.long fb), .second, .val (.long eb), .second, .val (.ref b7), .val (.ref b13), .val (.ref b20), .val (.double (FP.l2d (ea + ((wa * fa) * fa)))), .second, .val (.double (FP.l2d (eb + ((wb * fb) * fb)))), .second, .unset, .unset, .unset, .unset] [(.long (wa * fa)), (.long ea)])) _
    refine XS.lload X43.here hx rfl (hb hby at_135) rfl ?_
    show Steps p.tables e below (T43.setTop (mkF m 137 #[.val (.int p0), .val (.int p1), .val (.int p2), .val (.int p3), .val (.int p4), .val (.int p5), .val (.long wa), .second, .val (.long fa), .second, .val (.long ea), .second, .val (.long wb), .second, .val (.long fb), .second, .val (.long eb), .second, .val (.ref b7), .val (.ref b13), .val (.ref b20), .val (.double (FP.l2d (ea + ((wa * fa) * fa)))), .second, .val (.double (FP.l2d (eb + ((wb * fb) * fb)))), .second, .unset, .unset, .unset, .unset] [(.long fa), (.long (wa * fa)), (.long ea)])) _
    refine XS.lmul X43.here hx rfl (hb hby at_137) rfl ?_
    show Steps p.tables e below (T43.setTop (mkF m 138 #[.val (.int p0), .val (.int p1), .val (.int p2), .val (.int p3), .val (.int p4), .val (.int p5), .val (.long wa), .second, .val (.long fa), .second, .val (.long ea), .second, .val (.long wb), .second, .val (.long fb), .second, .val (.long eb), .second, .val (.ref b7), .val (.ref b13), .val (.ref b20), .val (.double (FP.l2d (ea + ((wa * fa) * fa)))), .second, .val (.double (FP.l2d (eb + ((wb * fb) * fb)))), .second, .unset, .unset, .unset, .unset] [(.long ((wa * fa) * fa)), (.long ea)])) _
    refine XS.ladd X43.here hx rfl (hb hby at_138) rfl ?_
    show Steps p.tables e below (T43.setTop (mkF m 139 #[.val (.int p0), .val (.int p1), .val (.int p2), .val (.int p3), .val (.int p4), .val (.int p5), .val (.long wa), .second, .val (.long fa), .second, .val (.long ea), .second, .val (.long wb), .second, .val (.long fb), .second, .val (.long eb), .second, .val (.ref b7), .val (.ref b13), .val (.ref b20), .val (.double (FP.l2d (ea + ((wa * fa) * fa)))), .second, .val (.double (FP.l2d (eb + ((wb * fb) * fb)))), .second, .unset, .unset, .unset, .unset] [(.long (ea + ((wa * fa) * fa)))])) _
    refine XS.lstore X43.here hx rfl (hb hby at_139) rfl (l' := #[.val (.int p0), .val (.int p1), .val (.int p2), .val (.int p3), .val (.int p4), .val (.int p5), .val (.long wa), .second, .val (.long fa), .second, .val (.long ea), .second, .val (.long wb), .second, .val (.long fb), .second, .val (.long eb), .second, .val (.ref b7), .val (.ref b13), .val (.ref b20), .val (.double (FP.l2d (ea + ((wa * fa) * fa)))), .second, .val (.double (FP.l2d (eb + ((wb * fb) * fb)))), .second, .val (.long (ea + ((wa * fa) * fa))), .second, .unset, .unset]) rfl ?_
    show Steps p.tables e below (T43.setTop (mkF m 141 #[.val (.int p0), .val (.int p1), .val (.int p2), .val (.int p3), .val (.int p4), .val (.int p5), .val (.long wa), .second, .val (.long fa), .second, .val (.long ea), .second, .val (.long wb), .second, .val (.long fb), .second, .val (.long eb), .second, .val (.ref b7), .val (.ref b13), .val (.ref b20), .val (.double (FP.l2d (ea + ((wa * fa) * fa)))), .second, .val (.double (FP.l2d (eb + ((wb * fb) * fb)))), .second, .val (.long (ea + ((wa * fa) * fa))), .second, .unset, .unset] [])) _
    refine XS.lload X43.here hx rfl (hb hby at_141) rfl ?_
    show Steps p.tables e below (T43.setTop (mkF m 143 #[.val (.int p0), .val (.int p1), .val (.int p2), .val (.int p3), .val (.int p4), .val (.int p5), .val (.long wa), .second, .val (.long fa), .second, .val (.long ea), .second, .val (.long wb), .second, .val (.long fb), .second, .val (.long eb), .second, .val (.ref b7), .val (.ref b13), .val (.ref b20), .val (.double (FP.l2d (ea + ((wa * fa) * fa)))), .second, .val (.double (FP.l2d (eb + ((wb * fb) * fb)))), .second, .val (.long (ea + ((wa * fa) * fa))), .second, .unset, .unset] [(.long eb)])) _
    refine XS.lload X43.here hx rfl (hb hby at_143) rfl ?_
    show Steps p.tables e below (T43.setTop (mkF m 145 #[.val (.int p0), .val (.int p1), .val (.int p2), .val (.int p3), .val (.int p4), .val (.int p5), .val (.long wa), .second, .val (.long fa), .second, .val (.long ea), .second, .val (.long wb), .second, .val (.long fb), .second, .val (.long eb), .second, .val (.ref b7), .val (.ref b13), .val (.ref b20), .val (.double (FP.l2d (ea + ((wa * fa) * fa)))), .second, .val (.double (FP.l2d (eb + ((wb * fb) * fb)))), .second, .val (.long (ea + ((wa * fa) * fa))), .second, .unset, .unset] [(.long wb), (.long eb)])) _
    refine XS.lload X43.here hx rfl (hb hby at_145) rfl ?_
    show Steps p.tables e below (T43.setTop (mkF m 147 #[.val (.int p0), .val (.int p1), .val (.int p2), .val (.int p3), .val (.int p4), .val (.int p5), .val (.long wa), .second, .val (.long fa), .second, .val (.long ea), .second, .val (.long wb), .second, .val (.long fb), .second, .val (.long eb), .second, .val (.ref b7), .val (.ref b13), .val (.ref b20), .val (.double (FP.l2d (ea + ((wa * fa) * fa)))), .second, .val (.double (FP.l2d (eb + ((wb * fb) * fb)))), .second, .val (.long (ea + ((wa * fa) * fa))), .second, .unset, .unset] [(.long fb), (.long wb), (.long eb)])) _
    refine XS.lmul X43.here hx rfl (hb hby at_147) rfl ?_
    show Steps p.tables e below (T43.setTop (mkF m 148 #[.val (.int p0), .val (.int p1), .val (.int p2), .val (.int p3), .val (.int p4), .val (.int p5), .val (.long wa), .second, .val (.long fa), .second, .val (.long ea), .second, .val (.long wb), .second, .val (.long fb), .second, .val (.long eb), .second, .val (.ref b7), .val (.ref b13), .val (.ref b20), .val (.double (FP.l2d (ea + ((wa * fa) * fa)))), .second, .val (.double (FP.l2d (eb + ((wb * fb) * fb)))), .second, .val (.long (ea + ((wa * fa) * fa))), .second, .unset, .unset] [(.long (wb * fb)), (.long eb)])) _
    refine XS.lload X43.here hx rfl (hb hby at_148) rfl ?_
    show Steps p.tables e below (T43.setTop (mkF m 150 #[.val (.int p0), .val (.int p1), .val (.int p2), .val (.int p3), .val (.int p4), .val (.int p5), .val (.long wa), .second, .val (.long fa), .second, .val (.long ea), .second, .val (.long wb), .second, .val (.long fb), .second, .val (.long eb), .second, .val (.ref b7), .val (.ref b13), .val (.ref b20), .val (.double (FP.l2d (ea + ((wa * fa) * fa)))), .second, .val (.double (FP.l2d (eb + ((wb * fb) * fb)))), .second, .val (.long (ea + ((wa * fa) * fa))), .second, .unset, .unset] [(.long fb), (.long (wb * fb)), (.long eb)])) _
    refine XS.lmul X43.here hx rfl (hb hby at_150) rfl ?_
    show Steps p.tables e below (T43.setTop (mkF m 151 #[.val (.int p0), .val (.int p1), .val (.int p2), .val (.int p3), .val (.int p4), .val (.int p5), .val (.long wa), .second, .val (.long fa), .second, .val (.long ea), .second, .val (.long wb), .second, .val (.long fb), .second, .val (.long eb), .second, .val (.ref b7), .val (.ref b13), .val (.ref b20), .val (.double (FP.l2d (ea + ((wa * fa) * fa)))), .second, .val (.double (FP.l2d (eb + ((wb * fb) * fb)))), .second, .val (.long (ea + ((wa * fa) * fa))), .second, .unset, .unset] [(.long ((wb * fb) * fb)), (.long eb)])) _
    refine XS.ladd X43.here hx rfl (hb hby at_151) rfl ?_
    show Steps p.tables e below (T43.setTop (mkF m 152 #[.val (.int p0), .val (.int p1), .val (.int p2), .val (.int p3), .val (.int p4), .val (.int p5), .val (.long wa), .second, .val (.long fa), .second, .val (.long ea), .second, .val (.long wb), .second, .val (.long fb), .second, .val (.long eb), .second, .val (.ref b7), .val (.ref b13), .val (.ref b20), .val (.double (FP.l2d (ea + ((wa * fa) * fa)))), .second, .val (.double (FP.l2d (eb + ((wb * fb) * fb)))), .second, .val (.long (ea + ((wa * fa) * fa))), .second, .unset, .unset] [(.long (eb + ((wb * fb) * fb)))])) _
    refine XS.lstore X43.here hx rfl (hb hby at_152) rfl (l' := #[.val (.int p0), .val (.int p1), .val (.int p2), .val (.int p3), .val (.int p4), .val (.int p5), .val (.long wa), .second, .val (.long fa), .second, .val (.long ea), .second, .val (.long wb), .second, .val (.long fb), .second, .val (.long eb), .second, .val (.ref b7), .val (.ref b13), .val (.ref b20), .val (.double (FP.l2d (ea + ((wa * fa) * fa)))), .second, .val (.double (FP.l2d (eb + ((wb * fb) * fb)))), .second, .val (.long (ea + ((wa * fa) * fa))), .second, .val (.long (eb + ((wb * fb) * fb))), .second]) rfl ?_
    show Steps p.tables e below (T43.setTop (mkF m 154 #[.val (.int p0), .val (.int p1), .val (.int p2), .val (.int p3), .val (.int p4), .val (.int p5), .val (.long wa), .second, .val (.long fa), .second, .val (.long ea), .second, .val (.long wb), .second, .val (.long fb), .second, .val (.long eb), .second, .val (.ref b7), .val (.ref b13), .val (.ref b20), .val (.double (FP.l2d (ea + ((wa * fa) * fa)))), .second, .val (.double (FP.l2d (eb + ((wb * fb) * fb)))), .second, .val (.long (ea + ((wa * fa) * fa))), .second, .val (.long (eb + ((wb * fb) * fb))), .second] [])) _
    refine XS.dload X43.here hx rfl (hb hby at_154) rfl ?_
    show Steps p.tables e below (T43.setTop (mkF m 156 #[.val (.int p0), .val (.int p1), .val (.int p2), .val (.int p3), .val (.int p4), .val (.int p5), .val (.long wa), .second, .val (.long fa), .second, .val (.long ea), .second, .val (.long wb), .second, .val (.long fb), .second, .val (.long eb), .second, .val (.ref b7), .val (.ref b13), .val (.ref b20), .val (.double (FP.l2d (ea + ((wa * fa) * fa)))), .second, .val (.double (FP.l2d (eb + ((wb * fb) * fb)))), .second, .val (.long (ea + ((wa * fa) * fa))), .second, .val (.long (eb + ((wb * fb) * fb))), .second] [(.double (FP.l2d (ea + ((wa * fa) * fa))))])) _
    refine XS.lload X43.here hx rfl (hb hby at_156) rfl ?_
    show Steps p.tables e below (T43.setTop (mkF m 158 #[.val (.int p0), .val (.int p1), .val (.int p2), .val (.int p3), .val (.int p4), .val (.int p5), .val (.long wa), .second, .val (.long fa), .second, .val (.long ea), .second, .val (.long wb), .second, .val (.long fb), .second, .val (.long eb), .second, .val (.ref b7), .val (.ref b13), .val (.ref b20), .val (.double (FP.l2d (ea + ((wa * fa) * fa)))), .second, .val (.double (FP.l2d (eb + ((wb * fb) * fb)))), .second, .val (.long (ea + ((wa * fa) * fa))), .second, .val (.long (eb + ((wb * fb) * fb))), .second] [(.long (ea + ((wa * fa) * fa))), (.double (FP.l2d (ea + ((wa * fa) * fa))))])) _
    refine XS.l2dS X43.here hx rfl (hb hby at_158) rfl rfl ?_
    show Steps p.tables e below (T43.setTop (mkF m 159 #[.val (.int p0), .val (.int p1), .val (.int p2), .val (.int p3), .val (.int p4), .val (.int p5), .val (.long wa), .second, .val (.long fa), .second, .val (.long ea), .second, .val (.long wb), .second, .val (.long fb), .second, .val (.long eb), .second, .val (.ref b7), .val (.ref b13), .val (.ref b20), .val (.double (FP.l2d (ea + ((wa * fa) * fa)))), .second, .val (.double (FP.l2d (eb + ((wb * fb) * fb)))), .second, .val (.long (ea + ((wa * fa) * fa))), .second, .val (.long (eb + ((wb * fb) * fb))), .second] [(.double (FP.l2d (ea + ((wa * fa) * fa)))), (.double (FP.l2d (ea + ((wa * fa) * fa))))])) _
    refine XS.dcmpS X43.here hx rfl (hb hby at_159) rfl (dcmpV_self (nn_w rfl) _) ?_
    show Steps p.tables e below (T43.setTop (mkF m 160 #[.val (.int p0), .val (.int p1), .val (.int p2), .val (.int p3), .val (.int p4), .val (.int p5), .val (.long wa), .second, .val (.long fa), .second, .val (.long ea), .second, .val (.long wb), .second, .val (.long fb), .second, .val (.long eb), .second, .val (.ref b7), .val (.ref b13), .val (.ref b20), .val (.double (FP.l2d (ea + ((wa * fa) * fa)))), .second, .val (.double (FP.l2d (eb + ((wb * fb) * fb)))), .second, .val (.long (ea + ((wa * fa) * fa))), .second, .val (.long (eb + ((wb * fb) * fb))), .second] [(.int (0 : Int32))])) _
    refine XS.ifNo X43.here hx rfl (hb hby at_160) rfl ((if0 _ _).trans (teq (rfl : (0 : Int32) = (0 : Int32))).2) ?_
    show Steps p.tables e below (T43.setTop (mkF m 163 #[.val (.int p0), .val (.int p1), .val (.int p2), .val (.int p3), .val (.int p4), .val (.int p5), .val (.long wa), .second, .val (.long fa), .second, .val (.long ea), .second, .val (.long wb), .second, .val (.long fb), .second, .val (.long eb), .second, .val (.ref b7), .val (.ref b13), .val (.ref b20), .val (.double (FP.l2d (ea + ((wa * fa) * fa)))), .second, .val (.double (FP.l2d (eb + ((wb * fb) * fb)))), .second, .val (.long (ea + ((wa * fa) * fa))), .second, .val (.long (eb + ((wb * fb) * fb))), .second] [])) _
    refine XS.dload X43.here hx rfl (hb hby at_163) rfl ?_
    show Steps p.tables e below (T43.setTop (mkF m 165 #[.val (.int p0), .val (.int p1), .val (.int p2), .val (.int p3), .val (.int p4), .val (.int p5), .val (.long wa), .second, .val (.long fa), .second, .val (.long ea), .second, .val (.long wb), .second, .val (.long fb), .second, .val (.long eb), .second, .val (.ref b7), .val (.ref b13), .val (.ref b20), .val (.double (FP.l2d (ea + ((wa * fa) * fa)))), .second, .val (.double (FP.l2d (eb + ((wb * fb) * fb)))), .second, .val (.long (ea + ((wa * fa) * fa))), .second, .val (.long (eb + ((wb * fb) * fb))), .second] [(.double (FP.l2d (eb + ((wb * fb) * fb))))])) _
    refine XS.lload X43.here hx rfl (hb hby at_165) rfl ?_
    show Steps p.tables e below (T43.setTop (mkF m 167 #[.val (.int p0), .val (.int p1), .val (.int p2), .val (.int p3), .val (.int p4), .val (.int p5), .val (.long wa), .second, .val (.long fa), .second, .val (.long ea), .second, .val (.long wb), .second, .val (.long fb), .second, .val (.long eb), .second, .val (.ref b7), .val (.ref b13), .val (.ref b20), .val (.double (FP.l2d (ea + ((wa * fa) * fa)))), .second, .val (.double (FP.l2d (eb + ((wb * fb) * fb)))), .second, .val (.long (ea + ((wa * fa) * fa))), .second, .val (.long (eb + ((wb * fb) * fb))), .second] [(.long (eb + ((wb * fb) * fb))), (.double (FP.l2d (eb + ((wb * fb) * fb))))])) _
    refine XS.l2dS X43.here hx rfl (hb hby at_167) rfl rfl ?_
    show Steps p.tables e below (T43.setTop (mkF m 168 #[.val (.int p0), .val (.int p1), .val (.int p2), .val (.int p3), .val (.int p4), .val (.int p5), .val (.long wa), .second, .val (.long fa), .second, .val (.long ea), .second, .val (.long wb), .second, .val (.long fb), .second, .val (.long eb), .second, .val (.ref b7), .val (.ref b13), .val (.ref b20), .val (.double (FP.l2d (ea + ((wa * fa) * fa)))), .second, .val (.double (FP.l2d (eb + ((wb * fb) * fb)))), .second, .val (.long (ea + ((wa * fa) * fa))), .second, .val (.long (eb + ((wb * fb) * fb))), .second] [(.double (FP.l2d (eb + ((wb * fb) * fb)))), (.double (FP.l2d (eb + ((wb * fb) * fb))))])) _
    refine XS.dcmpS X43.here hx rfl (hb hby at_168) rfl (dcmpV_self (nn_w rfl) _) ?_
    show Steps p.tables e below (T43.setTop (mkF m 169 #[.val (.int p0), .val (.int p1), .val (.int p2), .val (.int p3), .val (.int p4), .val (.int p5), .val (.long wa), .second, .val (.long fa), .second, .val (.long ea), .second, .val (.long wb), .second, .val (.long fb), .second, .val (.long eb), .second, .val (.ref b7), .val (.ref b13), .val (.ref b20), .val (.double (FP.l2d (ea + ((wa * fa) * fa)))), .second, .val (.double (FP.l2d (eb + ((wb * fb) * fb)))), .second, .val (.long (ea + ((wa * fa) * fa))), .second, .val (.long (eb + ((wb * fb) * fb))), .second] [(.int (0 : Int32))])) _
    refine XS.ifNo X43.here hx rfl (hb hby at_169) rfl ((if0 _ _).trans (teq (rfl : (0 : Int32) = (0 : Int32))).2) ?_
    show Steps p.tables e below (T43.setTop (mkF m 172 #[.val (.int p0), .val (.int p1), .val (.int p2), .val (.int p3), .val (.int p4), .val (.int p5), .val (.long wa), .second, .val (.long fa), .second, .val (.long ea), .second, .val (.long wb), .second, .val (.long fb), .second, .val (.long eb), .second, .val (.ref b7), .val (.ref b13), .val (.ref b20), .val (.double (FP.l2d (ea + ((wa * fa) * fa)))), .second, .val (.double (FP.l2d (eb + ((wb * fb) * fb)))), .second, .val (.long (ea + ((wa * fa) * fa))), .second, .val (.long (eb + ((wb * fb) * fb))), .second] [])) _
    refine XS.iconst X43.here hx rfl (hb hby at_172) ?_
    show Steps p.tables e below (T43.setTop (mkF m 173 #[.val (.int p0), .val (.int p1), .val (.int p2), .val (.int p3), .val (.int p4), .val (.int p5), .val (.long wa), .second, .val (.long fa), .second, .val (.long ea), .second, .val (.long wb), .second, .val (.long fb), .second, .val (.long eb), .second, .val (.ref b7), .val (.ref b13), .val (.ref b20), .val (.double (FP.l2d (ea + ((wa * fa) * fa)))), .second, .val (.double (FP.l2d (eb + ((wb * fb) * fb)))), .second, .val (.long (ea + ((wa * fa) * fa))), .second, .val (.long (eb + ((wb * fb) * fb))), .second] [(.int (1 : Int32))])) _
    refine XS.goto X43.here hx rfl (pc0 := 173) (pc' := 177) rfl (hb hby at_173) (by decide) (by decide) ?_
    show Steps p.tables e below (T43.setTop (mkF m 177 #[.val (.int p0), .val (.int p1), .val (.int p2), .val (.int p3), .val (.int p4), .val (.int p5), .val (.long wa), .second, .val (.long fa), .second, .val (.long ea), .second, .val (.long wb), .second, .val (.long fb), .second, .val (.long eb), .second, .val (.ref b7), .val (.ref b13), .val (.ref b20), .val (.double (FP.l2d (ea + ((wa * fa) * fa)))), .second, .val (.double (FP.l2d (eb + ((wb * fb) * fb)))), .second, .val (.long (ea + ((wa * fa) * fa))), .second, .val (.long (eb + ((wb * fb) * fb))), .second] [(.int (1 : Int32))])) _
    exact retN X43 hx (t := .boolean) Bd.returns (by simp) (hb hby at_177) hr
  · show rm0Q Z p0 p1 p2 p3 p4 p5 h0 n0 _ T43.heap _
    rw [e43q]
    exact ⟨rfl, N43⟩
set_option maxRecDepth 65536 in
set_option maxHeartbeats 40000000 in
theorem comes_1 {Post : Tables → Env → Array Value → State → Outcome → State → Prop} (hpost : ∀ tb e args s v u, (limb_1_1.after args s (.returned v) u = true ∧ limb_1_2.after args s (.returned v) u = true ∧ True) → FrameEnd s (.returned v) u (Jvm.fieldLocs frame_1_writes args s ++ Jvm.arrayLocs frame_1_arrays args s ++ Jvm.staticLocs frame_1_statics s) 24 128 → Post tb e args s (.returned v) u) :
    ArmFor flags0 classFile x code maxLocals ret World_1 tables_1 room_1 Calls_1 rest_1 Pre_1 Post := by
  intro l hfl _ _ p e ha hc hk s m args below hf hA hF happ hP
  obtain ⟨hcalls, hrest, hpre⟩ := hP
  obtain ⟨-, -, -, hnamed, -, -, -, hat⟩ := (Spec.applies_iff hf).mp happ
  obtain ⟨hg, hn⟩ := and_e (Cond.before_iff.mp (show (Jvm.Cond.and given_1 narrow_1).before args s = true from hpre))
  obtain ⟨g1, g2⟩ := and_e hg
  obtain ⟨g3, g4⟩ := and_e g2
  obtain ⟨g5, g6⟩ := and_e g4
  obtain ⟨g7, g8⟩ := and_e g6
  obtain ⟨g9, g10⟩ := and_e g8
  obtain ⟨g11, g12⟩ := and_e g10
  obtain ⟨w0, w1, w2, w3, w4, w5, rfl⟩ : ∃ w0 w1 w2 w3 w4 w5 : Value, args = #[w0, w1, w2, w3, w4, w5] := by
    have hs : args.size = 6 := by simpa [Cond.value, given_1] using g1
    obtain ⟨L⟩ := args
    match L, hs with
    | [w0, w1, w2, w3, w4, w5], _ => exact ⟨w0, w1, w2, w3, w4, w5, rfl⟩
  have hw := fun d (hd : d ∈ tables_1) => atoms_spec (ws := Jvm.Cond.code x code maxLocals ret :: tables_1) hat d (List.mem_cons_of_mem _ hd)
  have hfit : Fit s := fun {y c} hc i hi => by
    obtain ⟨ha, rfl⟩ := Array.getElem?_eq_some_iff.mp hc
    have q := List.all_eq_true.mp ((Array.all_eq_true_iff_forall_mem.mp hF) _ (Array.getElem_mem ha)) i (List.mem_range.mpr hi)
    simpa [Array.getElem?_eq_getElem hi] using q
  obtain ⟨i0, ei0⟩ := is_v g3
  obtain rfl : w0 = (.int i0) := Option.some.inj ei0
  obtain ⟨i1, ei1⟩ := is_v g5
  obtain rfl : w1 = (.int i1) := Option.some.inj ei1
  obtain ⟨i2, ei2⟩ := is_v g7
  obtain rfl : w2 = (.int i2) := Option.some.inj ei2
  obtain ⟨i3, ei3⟩ := is_v g9
  obtain rfl : w3 = (.int i3) := Option.some.inj ei3
  obtain ⟨i4, ei4⟩ := is_v g11
  obtain rfl : w4 = (.int i4) := Option.some.inj ei4
  obtain ⟨i5, ei5⟩ := is_v g12
  obtain rfl : w5 = (.int i5) := Option.some.inj ei5
  obtain ⟨n, o, h1, h2, h3, _, L, rfl, ⟨rfl, N⟩, hq⟩ := rm0 l s _ hw tables_1 i0 i1 i2 i3 i4 i5 s.heap s.heap.size (Nat.le_refl _) p e ha hc hk s m _ below hf ((Spec.applies_iff_loose hf).mp happ).1 ⟨rfl, State.Warmed39.refl s, rfl⟩ trivial
  refine ⟨n, _, h1, h2, h3, hpost _ _ _ _ _ _ ⟨Cond.after_iff.mpr rfl, Cond.after_iff.mpr (eq_i res_at (Term.int_eval (1)) rfl), trivial⟩ ⟨hq.1, hq.2.1, (hq.2.2.sift fun y hy => Or.inr (N y hy)).mono (by decide) (by decide)⟩⟩
theorem main_1_1 : Claimed_1_1 := comes_1 fun _ _ _ _ _ _ h hF => ⟨h.1, hF⟩
theorem main_1_2 : Claimed_1_2 := comes_1 fun _ _ _ _ _ _ h hF => ⟨h.2.1, hF⟩
end Jvm.Pilot.@@N@@
namespace Jvm.Pilot.@@N@@
open Jvm Jvm.ClassFile Sem Op Lib Jvm.Free Jvm.Stand Jvm.Pilot.@@N@@.Jvm.D
/-! MADE BY PROGRAM (witnessworld.py) out of the Statement's table words and the real class files: 14 classes; the members and pool entries that the words name. The judged class is class 1, her method 1. -/
namespace start1
open Jvm.ClassFile
def u (s : String) : CpInfo := .utf8 (stringToUtf16 s)
/-- a pool by its gaps: so many unusable entries, then the entry; so many at the end -/
def gap : Nat → List CpInfo → List CpInfo
  | 0, r => r
  | n + 1, r => .unusable :: gap n r
def poolList (es : List (Nat × CpInfo)) (last : Nat) : List CpInfo := es.foldr (fun e r => gap e.1 (e.2 :: r)) (gap last [])
def pool (es : List (Nat × CpInfo)) (last : Nat) : Array CpInfo := ⟨poolList es last⟩
def fileOf (pool : Array CpInfo) (this : Nat) (attrs : Array Attribute := #[]) (ms : Array MethodInfo := #[]) (fl : Nat := 33) (sup : Nat := 0) (ifs : Array Nat := #[]) (fds : Array FieldInfo := #[]) : ClassFile where
  minorVersion := 0
  majorVersion := 65
  constantPool := pool
  accessFlags := fl
  thisClass := this
  superClass := sup
  interfaces := ifs
  fields := fds
  methods := ms
  attributes := attrs
def plain (name : String) (sup : Option ClassId) : Class where
  name := name
  kind := .ordinary
  loader := none
  accessFlags := 33
  super := sup
  interfaces := #[]
  cf := none
  fields := #[]
  methods := #[]
  instanceTypes := #[]
  staticTypes := #[]
  resolved := #[]
  callSites := []
  init := .initialized
  statics := none
  mirror := none

def pool0 : Array CpInfo := pool [(5, u "<init>"), (0, u "()V"), (1, .class_ 10), (1, u "java/lang/Object")] 113

def k0c0 : Code := { maxStack := 0, maxLocals := 1, code := object_method_1_code, exceptionTable := #[], attributes := #[] }
def k0m0 : Method := { name := "<init>", desc := "()V", sig := { parameters := [], returnType := none }, accessFlags := 1, code := some k0c0 }
/-- java/lang/Object -/
def k0 : Class := { plain "java/lang/Object" none with
  accessFlags := 33
  interfaces := #[]
  cf := some (fileOf pool0 8 #[] #[{ accessFlags := 1, nameIndex := 5, descriptorIndex := 6, attributes := #[] }] 33 0 #[] #[])
  fields := #[]
  methods := #[k0m0]
  instanceTypes := #[]
  staticTypes := #[]
  resolved := Array.replicate 124 none
  statics := none }

def pool1 : Array CpInfo := pool [(2, .class_ 4), (1, u "java/lang/Object"), (0, u "<init>"), (0, u "()V"), (0, .long 2097152), (1, .integer 1073741823), (0, .class_ 11), (0, u "com/example/stochist/stochist/histogram/WeightedPoints$Point"), (0, .methodref 10 13), (0, .nameAndType 5 14), (0, u "(DDD)V"), (0, .class_ 16), (0, u "com/example/stochist/stochist/histogram/WeightedPoints"), (0, .methodref 15 18), (0, .nameAndType 5 19), (0, u "(I)V"), (0, .methodref 15 21), (0, .nameAndType 22 23), (0, u "add"), (0, u "(Lcom/example/stochist/stochist/histogram/WeightedPoints$Point;)V"), (0, .methodref 15 25), (0, .nameAndType 26 27), (0, u "costAtZero"), (0, u "(I)D"), (0, .class_ 29), (0, u "com/example/stochist/stochist/histogram/WeightedPointsCostAtZeroPinLaw"), (2, u "law"), (0, u "(IIIIII)Z")] 5

def k1m0 : Method := { name := "<init>", desc := "()V", sig := { parameters := [], returnType := none }, accessFlags := 1, code := none }
def k1c1 : Code := { maxStack := 8, maxLocals := 29, code := code, exceptionTable := #[], attributes := #[] }
def k1m1 : Method := { name := "law", desc := "(IIIIII)Z", sig := { parameters := [.int, .int, .int, .int, .int, .int], returnType := some .boolean }, accessFlags := 9, code := some k1c1 }
/-- com/example/stochist/stochist/histogram/WeightedPointsCostAtZeroPinLaw -/
def k1 : Class := { plain "com/example/stochist/stochist/histogram/WeightedPointsCostAtZeroPinLaw" (some 0) with
  accessFlags := 49
  interfaces := #[]
  cf := some (fileOf pool1 28 #[] #[{ accessFlags := 1, nameIndex := 5, descriptorIndex := 6, attributes := #[] }, { accessFlags := 9, nameIndex := 32, descriptorIndex := 33, attributes := #[] }] 49 2 #[] #[])
  fields := #[]
  methods := #[k1m0, k1m1]
  instanceTypes := #[]
  staticTypes := #[]
  resolved := Array.replicate 39 none
  statics := none }

def pool2 : Array CpInfo := pool [(1, .methodref 2 3), (0, .class_ 4), (0, .nameAndType 5 6), (0, u "java/lang/Object"), (0, u "<init>"), (0, u "()V"), (0, .class_ 8), (0, u "java/lang/Record")] 13

def k2c0 : Code := { maxStack := 1, maxLocals := 1, code := jdk_30_method_1_code, exceptionTable := #[], attributes := #[] }
def k2m0 : Method := { name := "<init>", desc := "()V", sig := { parameters := [], returnType := none }, accessFlags := 4, code := some k2c0 }
/-- java/lang/Record -/
def k2 : Class := { plain "java/lang/Record" (some 0) with
  accessFlags := 1057
  interfaces := #[]
  cf := some (fileOf pool2 7 #[] #[{ accessFlags := 4, nameIndex := 5, descriptorIndex := 6, attributes := #[] }] 1057 2 #[] #[])
  fields := #[]
  methods := #[k2m0]
  instanceTypes := #[]
  staticTypes := #[]
  resolved := Array.replicate 22 none
  statics := none }

def pool3 : Array CpInfo := pool [(1, .methodref 2 3), (0, .class_ 4), (0, .nameAndType 5 6), (0, u "java/lang/Record"), (0, u "<init>"), (0, u "()V"), (0, .fieldref 8 9), (0, .class_ 10), (0, .nameAndType 11 12), (0, u "com/example/stochist/stochist/histogram/WeightedPoints$Point"), (0, u "weight"), (0, u "D"), (0, .fieldref 8 14), (0, .nameAndType 15 12), (0, u "value"), (0, .fieldref 8 17), (0, .nameAndType 18 12), (0, u "error"), (12, u "(DDD)V"), (6, u "()D"), (3, .class_ 43), (0, u "com/example/stochist/stochist/histogram/WeightedPoints")] 21

def k3c0 : Code := { maxStack := 3, maxLocals := 7, code := prog_24_method_1_code, exceptionTable := #[], attributes := #[] }
def k3m0 : Method := { name := "<init>", desc := "(DDD)V", sig := { parameters := [.double, .double, .double], returnType := none }, accessFlags := 0, code := some k3c0 }
def k3c1 : Code := { maxStack := 2, maxLocals := 1, code := prog_24_method_5_code, exceptionTable := #[], attributes := #[] }
def k3m1 : Method := { name := "weight", desc := "()D", sig := { parameters := [], returnType := some .double }, accessFlags := 1, code := some k3c1 }
def k3c2 : Code := { maxStack := 2, maxLocals := 1, code := prog_24_method_6_code, exceptionTable := #[], attributes := #[] }
def k3m2 : Method := { name := "value", desc := "()D", sig := { parameters := [], returnType := some .double }, accessFlags := 1, code := some k3c2 }
def k3c3 : Code := { maxStack := 2, maxLocals := 1, code := prog_24_method_7_code, exceptionTable := #[], attributes := #[] }
def k3m3 : Method := { name := "error", desc := "()D", sig := { parameters := [], returnType := some .double }, accessFlags := 1, code := some k3c3 }
/-- com/example/stochist/stochist/histogram/WeightedPoints$Point -/
def k3 : Class := { plain "com/example/stochist/stochist/histogram/WeightedPoints$Point" (some 2) with
  accessFlags := 48
  interfaces := #[]
  cf := some (fileOf pool3 8 #[.nestHost 42] #[{ accessFlags := 0, nameIndex := 5, descriptorIndex := 31, attributes := #[] }, { accessFlags := 1, nameIndex := 11, descriptorIndex := 38, attributes := #[] }, { accessFlags := 1, nameIndex := 15, descriptorIndex := 38, attributes := #[] }, { accessFlags := 1, nameIndex := 18, descriptorIndex := 38, attributes := #[] }] 48 2 #[] #[{ accessFlags := 18, nameIndex := 11, descriptorIndex := 12, attributes := #[] }, { accessFlags := 18, nameIndex := 15, descriptorIndex := 12, attributes := #[] }, { accessFlags := 18, nameIndex := 18, descriptorIndex := 12, attributes := #[] }])
  fields := #[{ name := "weight", type := .double, accessFlags := 18, slot := 0, constantValue := 0 }, { name := "value", type := .double, accessFlags := 18, slot := 1, constantValue := 0 }, { name := "error", type := .double, accessFlags := 18, slot := 2, constantValue := 0 }]
  methods := #[k3m0, k3m1, k3m2, k3m3]
  instanceTypes := #[.double, .double, .double]
  staticTypes := #[]
  resolved := Array.replicate 65 none
  statics := none }

def pool4 : Array CpInfo := pool [(1, .class_ 2), (0, u "com/example/stochist/stochist/histogram/OptimalCut$Points"), (0, .class_ 4), (0, u "java/lang/Object"), (11, .class_ 17), (0, u "com/example/stochist/stochist/histogram/OptimalCut")] 5

/-- com/example/stochist/stochist/histogram/OptimalCut$Points -/
def k4 : Class := { plain "com/example/stochist/stochist/histogram/OptimalCut$Points" (some 0) with
  accessFlags := 1536
  interfaces := #[]
  cf := some (fileOf pool4 1 #[.nestHost 16] #[] 1536 3 #[] #[])
  fields := #[]
  methods := #[]
  instanceTypes := #[]
  staticTypes := #[]
  resolved := Array.replicate 23 none
  statics := none }

def pool5 : Array CpInfo := pool [(3, .methodref 4 5), (0, .class_ 6), (0, .nameAndType 7 8), (0, u "java/lang/Object"), (0, u "<init>"), (0, u "()V"), (0, .fieldref 10 11), (0, .class_ 12), (0, .nameAndType 13 14), (0, u "com/example/stochist/stochist/histogram/WeightedPoints"), (0, u "weights"), (0, u "[D"), (0, .fieldref 10 16), (0, .nameAndType 17 14), (0, u "values"), (0, .fieldref 10 19), (0, .nameAndType 20 14), (0, u "errors"), (4, u "value"), (0, u "(I)D"), (2, u "weight"), (2, u "error"), (0, .class_ 34), (0, u "com/example/stochist/stochist/histogram/WeightedPoints$Point"), (3, .fieldref 10 39), (0, .nameAndType 40 41), (0, u "size"), (0, u "I"), (0, .methodref 33 43), (0, .nameAndType 29 44), (0, u "()D"), (0, .methodref 33 46), (0, .nameAndType 25 44), (0, .methodref 33 48), (0, .nameAndType 32 44), (0, .class_ 50), (0, u "com/example/stochist/stochist/histogram/WeightedPoints$RunningCost"), (5, .class_ 57), (0, u "com/example/stochist/stochist/histogram/OptimalCut$Points"), (0, u "BYTES_PER_POINT"), (2, u "(I)V"), (5, u "add"), (0, u "(Lcom/example/stochist/stochist/histogram/WeightedPoints$Point;)V"), (3, u "costAtZero")] 14

def k5c0 : Code := { maxStack := 3, maxLocals := 2, code := prog_23_method_1_code, exceptionTable := #[], attributes := #[] }
def k5m0 : Method := { name := "<init>", desc := "(I)V", sig := { parameters := [.int], returnType := none }, accessFlags := 0, code := some k5c0 }
def k5c1 : Code := { maxStack := 4, maxLocals := 2, code := prog_23_method_3_code, exceptionTable := #[], attributes := #[] }
def k5m1 : Method := { name := "add", desc := "(Lcom/example/stochist/stochist/histogram/WeightedPoints$Point;)V", sig := { parameters := [(.object "com/example/stochist/stochist/histogram/WeightedPoints$Point")], returnType := none }, accessFlags := 0, code := some k5c1 }
def k5c2 : Code := { maxStack := 6, maxLocals := 2, code := prog_23_method_6_code, exceptionTable := #[], attributes := #[] }
def k5m2 : Method := { name := "costAtZero", desc := "(I)D", sig := { parameters := [.int], returnType := some .double }, accessFlags := 1, code := some k5c2 }
/-- com/example/stochist/stochist/histogram/WeightedPoints -/
def k5 : Class := { plain "com/example/stochist/stochist/histogram/WeightedPoints" (some 0) with
  accessFlags := 48
  interfaces := #[4]
  cf := some (fileOf pool5 10 #[.nestMembers #[49, 33]] #[{ accessFlags := 0, nameIndex := 7, descriptorIndex := 61, attributes := #[] }, { accessFlags := 0, nameIndex := 67, descriptorIndex := 68, attributes := #[] }, { accessFlags := 1, nameIndex := 72, descriptorIndex := 26, attributes := #[] }] 48 4 #[56] #[{ accessFlags := 24, nameIndex := 58, descriptorIndex := 41, attributes := #[] }, { accessFlags := 18, nameIndex := 13, descriptorIndex := 14, attributes := #[] }, { accessFlags := 18, nameIndex := 17, descriptorIndex := 14, attributes := #[] }, { accessFlags := 18, nameIndex := 20, descriptorIndex := 14, attributes := #[] }, { accessFlags := 2, nameIndex := 40, descriptorIndex := 41, attributes := #[] }])
  fields := #[{ name := "BYTES_PER_POINT", type := .int, accessFlags := 24, slot := 0, constantValue := 0 }, { name := "weights", type := (.array .double), accessFlags := 18, slot := 0, constantValue := 0 }, { name := "values", type := (.array .double), accessFlags := 18, slot := 1, constantValue := 0 }, { name := "errors", type := (.array .double), accessFlags := 18, slot := 2, constantValue := 0 }, { name := "size", type := .int, accessFlags := 2, slot := 3, constantValue := 0 }]
  methods := #[k5m0, k5m1, k5m2]
  instanceTypes := #[(.array .double), (.array .double), (.array .double), .int]
  staticTypes := #[.int]
  resolved := Array.replicate 87 none
  statics := none }

def pool6 : Array CpInfo := pool [(1, u "java/lang/Cloneable"), (0, .class_ 1), (0, u "java/lang/Object"), (0, .class_ 3)] 3

/-- java/lang/Cloneable -/
def k6 : Class := { plain "java/lang/Cloneable" (some 0) with
  accessFlags := 1537
  interfaces := #[]
  cf := some (fileOf pool6 2 #[] #[] 1537 4 #[] #[])
  fields := #[]
  methods := #[]
  instanceTypes := #[]
  staticTypes := #[]
  resolved := Array.replicate 8 none
  statics := none }

def pool7 : Array CpInfo := pool [(1, u "java/io/Serializable"), (0, .class_ 1), (0, u "java/lang/Object"), (0, .class_ 3)] 3

/-- java/io/Serializable -/
def k7 : Class := { plain "java/io/Serializable" (some 0) with
  accessFlags := 1537
  interfaces := #[]
  cf := some (fileOf pool7 2 #[] #[] 1537 4 #[] #[])
  fields := #[]
  methods := #[]
  instanceTypes := #[]
  staticTypes := #[]
  resolved := Array.replicate 8 none
  statics := none }

/-- the primitive byte -/
def k8 : Class := { plain "byte" none with kind := .primitive 'B', accessFlags := 0x411 }
/-- [B -/
def k9 : Class := { plain "[B" (some 0) with kind := .array 8 .byte, interfaces := #[6, 7], accessFlags := 1041 }

/-- the primitive double -/
def k10 : Class := { plain "double" none with kind := .primitive 'D', accessFlags := 0x411 }
/-- [D -/
def k11 : Class := { plain "[D" (some 0) with kind := .array 10 .double, interfaces := #[6, 7], accessFlags := 1041 }

/-- the primitive int -/
def k12 : Class := { plain "int" none with kind := .primitive 'I', accessFlags := 0x411 }
/-- [I -/
def k13 : Class := { plain "[I" (some 0) with kind := .array 12 .int, interfaces := #[6, 7], accessFlags := 1041 }

def heap : Heap := #[]
def classes : Array Class := #[k0, k1, k2, k3, k4, k5, k6, k7, k8, k9, k10, k11, k12, k13]
def interned : List (Array UInt16 × Addr) := []
def slotsUsed : Nat := 0
def theMethod : MethodId := ⟨1, 1⟩
def args0 : Array Value := #[.int 5, .int 3, .int 1, .int 5, .int 3, .int 1]
def aboutOver (below : List Frame) : State where
  vm := { classes := classes, interned := interned.toArray }
  heap := heap
  slotsUsed := slotsUsed
  threads := #[{ frames := .invoking theMethod args0 :: below }]
def below0 : List Frame := [.native { method := ⟨0, 0⟩, args := #[] }]
def about1 : State := aboutOver below0
def p0 : Program := .bare "" "" ""
def e0 : Env := launch0.env 0 0 0
theorem w_frames : about1.frames = Frame.invoking theMethod args0 :: below0 := rfl
set_option maxRecDepth 65536 in
theorem w_args : argsFit about1.vm theMethod args0 = true := by decide +kernel
set_option maxRecDepth 65536 in
theorem w_heap : heapFits about1 = true := by decide +kernel
set_option maxRecDepth 65536 in
theorem w_runnable : about1.curStatus? = some .runnable := by decide +kernel
set_option maxRecDepth 65536 in
theorem w_alone : about1.alone = true := by decide +kernel
set_option maxRecDepth 65536 in
theorem w_named : about1.methodNamed? x = some theMethod := by decide +kernel
set_option maxRecDepth 65536 in
theorem w_hears : about1.hears theMethod below0 = true := by decide +kernel
set_option maxRecDepth 65536 in
theorem w_ripe : about1.ripe theMethod args0 below0 = true := by decide +kernel
theorem w_running : about1.status = .running := rfl
set_option maxRecDepth 65536 in
theorem w_room : about1.hasRoom e0.platform room_1 = true :=
  launch0.hasRoom_least _ room_1 (by decide +kernel) (by decide +kernel) (by decide +kernel) (by decide +kernel) (by decide +kernel) (by decide +kernel)
theorem allAtoms_all (ts : List Jvm.Cond) (a : Array Jvm.Value) (st : Jvm.State) : (allAtoms ts).before a st = ts.all (fun c => c.before a st) := by
  induction ts with
  | nil => rfl
  | cons c t ih =>
    show (Jvm.Cond.and c (allAtoms t)).before a st = _
    rw [Jvm.Cond.before_and, ih, List.all_cons]
def words1 : List Jvm.Cond := Jvm.Cond.code x code maxLocals ret :: tables_1
/-- a 'code' word, met by the world's own term for the bytes: nothing is compared byte by byte -/
theorem code_word {y : MethodName} {bytes : ByteArray} {mx : Nat} {rt : Option FieldType} {a : Array Value} {s : State} {m : MethodId} {meth : Method} {c : Code} (h1 : s.methodNamed? y = some m) (h2 : s.vm.method? m = some meth) (h3 : meth.code = some c) (h4 : c.code = bytes)
    (h5 : (c.maxLocals == mx && c.exceptionTable.isEmpty && decide (c.maxStack ≤ mostOperands) && decide (meth.sig.returnType = rt) && !meth.locks && decide (parseMethodDescriptor y.desc = some meth.sig)) = true) : (Jvm.Cond.code y bytes mx rt).before a s = true := by
  simp only [Bool.and_eq_true, beq_iff_eq, Bool.not_eq_true', decide_eq_true_eq] at h5
  obtain ⟨⟨⟨⟨⟨g1, g2⟩, g3⟩, g4⟩, g5⟩, g6⟩ := h5
  simp [Cond.before, Cond.holds, Cond.value, h1, h2, h3, h4, g1, g2, g3, g4, g5, g6]
def isCode : Jvm.Cond → Bool
  | .code _ _ _ _ => true
  | _ => false
theorem all_split {L : List Jvm.Cond} {P : Jvm.Cond → Bool} (h1 : L.all (fun c => isCode c || P c) = true) (h2 : ∀ c ∈ L.filter isCode, P c = true) : L.all P = true := by
  refine List.all_eq_true.mpr fun c hc => ?_
  have h := List.all_eq_true.mp h1 c hc
  rcases Bool.eq_false_or_eq_true (isCode c) with hi | hi
  · exact h2 c (List.mem_filter.mpr ⟨hc, hi⟩)
  · simpa [hi] using h
set_option maxRecDepth 65536 in
theorem w_c0 : (Jvm.Cond.code x code maxLocals ret).before args0 about1 = true := code_word (m := ⟨1, 1⟩) (meth := k1m1) (c := k1c1) (by decide +kernel) rfl rfl rfl (by decide +kernel)
set_option maxRecDepth 65536 in
theorem w_c1 : (Jvm.Cond.code ({ cls := "com/example/stochist/stochist/histogram/WeightedPoints$Point", name := "<init>", desc := "(DDD)V" } : Jvm.MethodName) prog_24_method_1_code (7 : Nat) (Option.none : Option Jvm.ClassFile.FieldType)).before args0 about1 = true := code_word (m := ⟨3, 0⟩) (meth := k3m0) (c := k3c0) (by decide +kernel) rfl rfl rfl (by decide +kernel)
set_option maxRecDepth 65536 in
theorem w_c2 : (Jvm.Cond.code ({ cls := "java/lang/Record", name := "<init>", desc := "()V" } : Jvm.MethodName) jdk_30_method_1_code (1 : Nat) (Option.none : Option Jvm.ClassFile.FieldType)).before args0 about1 = true := code_word (m := ⟨2, 0⟩) (meth := k2m0) (c := k2c0) (by decide +kernel) rfl rfl rfl (by decide +kernel)
set_option maxRecDepth 65536 in
theorem w_c3 : (Jvm.Cond.code ({ cls := "java/lang/Object", name := "<init>", desc := "()V" } : Jvm.MethodName) object_method_1_code (1 : Nat) (Option.none : Option Jvm.ClassFile.FieldType)).before args0 about1 = true := code_word (m := ⟨0, 0⟩) (meth := k0m0) (c := k0c0) (by decide +kernel) rfl rfl rfl (by decide +kernel)
set_option maxRecDepth 65536 in
theorem w_c4 : (Jvm.Cond.code ({ cls := "com/example/stochist/stochist/histogram/WeightedPoints", name := "<init>", desc := "(I)V" } : Jvm.MethodName) prog_23_method_1_code (2 : Nat) (Option.none : Option Jvm.ClassFile.FieldType)).before args0 about1 = true := code_word (m := ⟨5, 0⟩) (meth := k5m0) (c := k5c0) (by decide +kernel) rfl rfl rfl (by decide +kernel)
set_option maxRecDepth 65536 in
theorem w_c5 : (Jvm.Cond.code ({ cls := "com/example/stochist/stochist/histogram/WeightedPoints", name := "add", desc := "(Lcom/example/stochist/stochist/histogram/WeightedPoints$Point;)V" } : Jvm.MethodName) prog_23_method_3_code (2 : Nat) (Option.none : Option Jvm.ClassFile.FieldType)).before args0 about1 = true := code_word (m := ⟨5, 1⟩) (meth := k5m1) (c := k5c1) (by decide +kernel) rfl rfl rfl (by decide +kernel)
set_option maxRecDepth 65536 in
theorem w_c6 : (Jvm.Cond.code ({ cls := "com/example/stochist/stochist/histogram/WeightedPoints$Point", name := "weight", desc := "()D" } : Jvm.MethodName) prog_24_method_5_code (1 : Nat) (Option.some Jvm.ClassFile.FieldType.double)).before args0 about1 = true := code_word (m := ⟨3, 1⟩) (meth := k3m1) (c := k3c1) (by decide +kernel) rfl rfl rfl (by decide +kernel)
set_option maxRecDepth 65536 in
theorem w_c7 : (Jvm.Cond.code ({ cls := "com/example/stochist/stochist/histogram/WeightedPoints$Point", name := "value", desc := "()D" } : Jvm.MethodName) prog_24_method_6_code (1 : Nat) (Option.some Jvm.ClassFile.FieldType.double)).before args0 about1 = true := code_word (m := ⟨3, 2⟩) (meth := k3m2) (c := k3c2) (by decide +kernel) rfl rfl rfl (by decide +kernel)
set_option maxRecDepth 65536 in
theorem w_c8 : (Jvm.Cond.code ({ cls := "com/example/stochist/stochist/histogram/WeightedPoints$Point", name := "error", desc := "()D" } : Jvm.MethodName) prog_24_method_7_code (1 : Nat) (Option.some Jvm.ClassFile.FieldType.double)).before args0 about1 = true := code_word (m := ⟨3, 3⟩) (meth := k3m3) (c := k3c3) (by decide +kernel) rfl rfl rfl (by decide +kernel)
set_option maxRecDepth 65536 in
theorem w_c9 : (Jvm.Cond.code ({ cls := "com/example/stochist/stochist/histogram/WeightedPoints", name := "costAtZero", desc := "(I)D" } : Jvm.MethodName) prog_23_method_6_code (2 : Nat) (Option.some Jvm.ClassFile.FieldType.double)).before args0 about1 = true := code_word (m := ⟨5, 2⟩) (meth := k5m2) (c := k5c2) (by decide +kernel) rfl rfl rfl (by decide +kernel)
def codes1 : List Jvm.Cond := [Jvm.Cond.code x code maxLocals ret, Jvm.Cond.code ({ cls := "com/example/stochist/stochist/histogram/WeightedPoints$Point", name := "<init>", desc := "(DDD)V" } : Jvm.MethodName) prog_24_method_1_code (7 : Nat) (Option.none : Option Jvm.ClassFile.FieldType), Jvm.Cond.code ({ cls := "java/lang/Record", name := "<init>", desc := "()V" } : Jvm.MethodName) jdk_30_method_1_code (1 : Nat) (Option.none : Option Jvm.ClassFile.FieldType), Jvm.Cond.code ({ cls := "java/lang/Object", name := "<init>", desc := "()V" } : Jvm.MethodName) object_method_1_code (1 : Nat) (Option.none : Option Jvm.ClassFile.FieldType), Jvm.Cond.code ({ cls := "com/example/stochist/stochist/histogram/WeightedPoints", name := "<init>", desc := "(I)V" } : Jvm.MethodName) prog_23_method_1_code (2 : Nat) (Option.none : Option Jvm.ClassFile.FieldType), Jvm.Cond.code ({ cls := "com/example/stochist/stochist/histogram/WeightedPoints", name := "add", desc := "(Lcom/example/stochist/stochist/histogram/WeightedPoints$Point;)V" } : Jvm.MethodName) prog_23_method_3_code (2 : Nat) (Option.none : Option Jvm.ClassFile.FieldType), Jvm.Cond.code ({ cls := "com/example/stochist/stochist/histogram/WeightedPoints$Point", name := "weight", desc := "()D" } : Jvm.MethodName) prog_24_method_5_code (1 : Nat) (Option.some Jvm.ClassFile.FieldType.double), Jvm.Cond.code ({ cls := "com/example/stochist/stochist/histogram/WeightedPoints$Point", name := "value", desc := "()D" } : Jvm.MethodName) prog_24_method_6_code (1 : Nat) (Option.some Jvm.ClassFile.FieldType.double), Jvm.Cond.code ({ cls := "com/example/stochist/stochist/histogram/WeightedPoints$Point", name := "error", desc := "()D" } : Jvm.MethodName) prog_24_method_7_code (1 : Nat) (Option.some Jvm.ClassFile.FieldType.double), Jvm.Cond.code ({ cls := "com/example/stochist/stochist/histogram/WeightedPoints", name := "costAtZero", desc := "(I)D" } : Jvm.MethodName) prog_23_method_6_code (2 : Nat) (Option.some Jvm.ClassFile.FieldType.double)]
set_option maxRecDepth 65536 in
theorem codes_eq : words1.filter isCode = codes1 := rfl
theorem w_codes : ∀ c ∈ words1.filter isCode, c.before args0 about1 = true := by
  rw [codes_eq]
  intro c hc
  simp only [codes1, List.mem_cons, List.not_mem_nil, or_false] at hc
  rcases hc with rfl | rfl | rfl | rfl | rfl | rfl | rfl | rfl | rfl | rfl
  · exact w_c0
  · exact w_c1
  · exact w_c2
  · exact w_c3
  · exact w_c4
  · exact w_c5
  · exact w_c6
  · exact w_c7
  · exact w_c8
  · exact w_c9
set_option maxRecDepth 65536 in
theorem w_t1 : (words1.take 24).all (fun c => isCode c || c.before args0 about1) = true := by decide +kernel
set_option maxRecDepth 65536 in
theorem w_t2 : ((words1.drop 24).take 24).all (fun c => isCode c || c.before args0 about1) = true := by decide +kernel
set_option maxRecDepth 65536 in
theorem w_t3 : ((words1.drop 24).drop 24).all (fun c => isCode c || c.before args0 about1) = true := by decide +kernel
theorem w_tables : (allAtoms (Jvm.Cond.code x code maxLocals ret :: tables_1)).before args0 about1 = true := by
  rw [allAtoms_all]
  show words1.all (fun c => c.before args0 about1) = true
  refine all_split ?_ w_codes
  rw [← List.take_append_drop 24 words1, List.all_append, w_t1, ← List.take_append_drop 24 (words1.drop 24), List.all_append, w_t2, w_t3]
  rfl
set_option maxRecDepth 65536 in
theorem w_case : (Jvm.Cond.and given_1 narrow_1).before args0 about1 = true := by decide +kernel
theorem w_applies : (headSpec (Jvm.Cond.code x code maxLocals ret :: tables_1) room_1).applies x e0.platform about1 = true :=
  (Spec.applies_iff w_frames).mpr ⟨w_running, w_runnable, w_alone, w_named, w_hears, w_ripe, w_room, w_tables⟩
theorem atStart : AtStart classFile x code maxLocals ret World_1 tables_1 room_1 Calls_1 rest_1 Pre_1 launch0 p0 e0 about1 theMethod args0 below0 :=
  ⟨lists_1, trivial, launch0.admits_env _ _ _, launch0.least_env, fairChoices_fair.cas, fairChoices_fair.clock, w_frames, w_args, w_heap, w_applies, trivial, trivial, w_case⟩
end start1
theorem witness_1 : WitnessClaimed_1 := ⟨start1.p0, start1.e0, start1.about1, start1.theMethod, start1.args0, start1.below0, start1.atStart⟩
end Jvm.Pilot.@@N@@
