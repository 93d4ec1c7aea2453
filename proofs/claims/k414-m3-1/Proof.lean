import JvmDerived
import JvmDerived.Pilot.@@N@@Statement
import JvmDerived.Pilot.@@N@@Code
set_option linter.unusedVariables false
set_option linter.unusedSimpArgs false
namespace Jvm.RoadKit
open Sem ClassFile Op Lib Jvm.Stand Jvm.Free Jvm.LawKit
section New
variable {p : Program} {l : Launch} {e : Env} {R : Room} {s : State} {m : MethodId} {args : Array Value} {below : List Frame} {meth : Method} {c : Code} {T : State} {locs : List Loc} {cells slots : Nat}
theorem retI (X : Stand p l e R s m args below meth c T locs cells slots) (hx : p.tables.exec = Jvm.exec) {pc : Nat} {Ls : Array Slot} {z : Int32} {rest : List Value} (hret : meth.sig.returnType = some .int) (hd : decode c.code pc = .ok (.ireturn, 1)) {fs : List Frame}
    (hl : ∀ (f : JFrame) (acts : List Action), f.method = m → f.locked = none → f.entered = [] → (doReturn e (T.setTop f) acts (some (.int z))).1 = T.setFrames fs) : Steps p.tables e below (T.setTop (mkF m pc Ls (.int z :: rest))) (T.setFrames fs) := by
  have hm' : T.vm.method? m = some meth := X.method'
  have hn : narrow .int (.int z) = .int z := rfl
  show Steps p.tables e below (T.setTop { method := m, pc := pc, locals := Ls, stack := _ :: rest, locked := none }) _
  jvm_step X.here [X.here.top, hx, hd, hm', hret, hn]
  first | (intro acts; rw [hl _ acts rfl rfl rfl]) | rw [hl _ _ rfl rfl rfl]
  exact Steps.refl _
end New
end Jvm.RoadKit
namespace Jvm.Pilot.@@N@@
open Jvm Jvm.ClassFile Sem Op Lib Jvm.Free Jvm.Stand Jvm.LawKit Jvm.RoadKit Bundle Jvm.Pilot.@@N@@.Jvm.D
def own_irem (a b : Int32) : Int32 := a - (a / b) * b
def own_lrem (a b : Int64) : Int64 := a - (a / b) * b
theorem own_nz {x : Int32} (h : ¬ x = 0) : x.toInt64 ≠ 0 := fun q => h (Int32.toInt_inj.mp (by
  have := congrArg Int64.toInt q
  rw [c_i2l] at this
  exact this))
theorem own_nz1 {x : Int32} (h : ¬ x < (1 : Int32)) : x.toInt64 ≠ 0 := own_nz (fun q => h (by rw [q]; decide))
theorem own_irem_mod (x y : Int32) : own_irem x y = x % y := by
  apply Int32.toInt_inj.mp
  have h1 := Int32.le_toInt (x % y)
  have h2 := Int32.toInt_lt (x % y)
  rw [own_irem, Int32.toInt_sub, Int32.toInt_mul, Int32.toInt_div, Int.bmod_mul_bmod, Int.sub_bmod_bmod, Int.mul_comm (x.toInt.tdiv y.toInt), ← Int.tmod_def, ← Int32.toInt_mod]
  exact Int.bmod_eq_of_le_mul_two (by omega) (by omega)
theorem own_ratio (a : Int32) : 1 ≤ ((own_irem (a &&& (2147483647 : Int32)) (100 : Int32)) + (1 : Int32)).toInt ∧ ((own_irem (a &&& (2147483647 : Int32)) (100 : Int32)) + (1 : Int32)).toInt ≤ 100 := by
  have h1 := c_mask a 2147483647 31 (by decide) (by decide)
  have h2 := c_irem (a &&& (2147483647 : Int32)) 100 100 (by decide)
  rw [own_irem_mod]
  have h3 := c_iadd ((a &&& (2147483647 : Int32)) % 100) 1
  rw [show (1 : Int32).toInt = 1 by decide] at h3
  have h4 := rng32 (((a &&& (2147483647 : Int32)) % 100) + 1)
  have h5 : ((a &&& (2147483647 : Int32)) % 100).toInt = (a &&& (2147483647 : Int32)).toInt % 100 := h2.1 (by rw [h1]; omega)
  generalize ((a &&& (2147483647 : Int32)) % 100).toInt = z at *
  omega
theorem own_r1 (a : Int32) : ¬ ((own_irem (a &&& (2147483647 : Int32)) (100 : Int32)) + (1 : Int32)) < (1 : Int32) := by
  rw [Int32.lt_iff_toInt_lt, show (1 : Int32).toInt = 1 by decide]
  have := own_ratio a
  omega
theorem own_r2 (a : Int32) : ¬ (100 : Int32) < ((own_irem (a &&& (2147483647 : Int32)) (100 : Int32)) + (1 : Int32)) := by
  rw [Int32.lt_iff_toInt_lt, show (100 : Int32).toInt = 100 by decide]
  have := own_ratio a
  omega
theorem own_io (b : Int64) : ¬ (b &&& (9223372036854775807 : Int64)) < (0 : Int64) := by
  rw [Int64.lt_iff_toInt_lt, show (0 : Int64).toInt = 0 by decide, c_maskL b 9223372036854775807 63 (by decide) (by decide)]
  omega
theorem d2_0 : decode prog_16_method_2_code 0 = .ok (.iload_n 0, 1) := by decide +kernel
theorem d2_1 : decode prog_16_method_2_code 1 = .ok (.iconst 1, 1) := by decide +kernel
theorem d2_2 : decode prog_16_method_2_code 2 = .ok (.if_icmp .lt 9, 3) := by decide +kernel
theorem d2_5 : decode prog_16_method_2_code 5 = .ok (.iload_n 0, 1) := by decide +kernel
theorem d2_6 : decode prog_16_method_2_code 6 = .ok (.bipush 100, 2) := by decide +kernel
theorem d2_8 : decode prog_16_method_2_code 8 = .ok (.if_icmp .le 17, 3) := by decide +kernel
theorem d2_25 : decode prog_16_method_2_code 25 = .ok (.iload_n 0, 1) := by decide +kernel
theorem d2_26 : decode prog_16_method_2_code 26 = .ok (.ireturn, 1) := by decide +kernel
theorem pn_2 : plainName "com/example/gyre/gyre/IoRatio" = true := by first | (simp [plainName, overriddenIn]; done) | decide +kernel
theorem ef_rm2 (m : MethodId) (p0 : Int32) : entryFrame m #[(.int p0)] 1 = mkF m 0 #[.val (.int p0)] [] := by first | (simp [entryFrame, mkF, argsToLocals, Value.category]; done) | rfl
def own_f2 (p0 : Int32) : Int32 :=
  p0
def rm2Q (Z : State) (p0 : Int32) (h0 : Heap) (n0 : Nat) (v : Option Value) (h : Heap) (L : List Loc) : Prop := v = some (.int (own_f2 p0)) ∧ Fr n0 L ∧ h = h0
set_option maxRecDepth 65536 in
set_option maxHeartbeats 40000000 in
theorem rm2 (l : Launch) (Z : State) (aw : Array Value) (hw : ∀ d ∈ tables_1, d.before aw Z = true) (ws : List Jvm.Cond) (p0 : Int32) (h0 : Heap) (n0 : Nat) (Z0 : n0 ≤ h0.size) (hp1 : ¬ p0 < (1 : Int32)) (hp2 : ¬ (100 : Int32) < p0) :
    MetFree l (⟨"com/example/gyre/gyre/IoRatio", "checkRatio", "(I)I"⟩ : MethodName) (head1 (Jvm.Cond.code (⟨"com/example/gyre/gyre/IoRatio", "checkRatio", "(I)I"⟩ : MethodName) prog_16_method_2_code 1 (some .int) :: ws) ({ frames := 0, cells := 0, slots := 0, locals := 0 } : Room)) (fun a U => a = #[(.int p0)] ∧ Z.Warmed39 U.vm ∧ U.heap = h0) (fun _ _ _ _ _ => True) (fun _ U o U' => ∃ v L, o = .returned v ∧ rm2Q Z p0 h0 n0 v U'.heap L ∧ FrameEnd U o U' L ({ frames := 0, cells := 0, slots := 0, locals := 0 } : Room).cells ({ frames := 0, cells := 0, slots := 0, locals := 0 } : Room).slots) := by
  refine MetFree.of_bodySF (plainFor_of_name pn_2) hisR ?_
  intro p e s m args below meth c s₁ Bd hml0 hP hK
  obtain ⟨rfl, hZ, hh⟩ := hP
  have hx := Bd.exec
  have hby := Bd.bytes
  have hml : c.maxLocals = 1 := hml0
  have hown : s.vm.findClass "com/example/gyre/gyre/IoRatio" = some m.cls := findClass_of_methodNamed Bd.named
  have hnm := (name_of_methodNamed Bd.named Bd.method).1
  have X0 : Stand p l e ({ frames := 0, cells := 0, slots := 0, locals := 0 } : Room) s m #[(.int p0)] below meth c s₁ [] 0 0 := Stand.of_body Bd
  have e0 : s₁.heap = h0 := by rw [← hh, Bd.state]; rfl
  have N0 := Fr.nil n0
  have pre0 : ∀ t, Steps p.tables e below (s₁.setTop (mkF m 0 #[.val (.int p0)] [])) t → Steps p.tables e below (s₁.setTop (entryFrame m #[(.int p0)] 1)) t := fun t k => castTop (ef_rm2 m p0) k
  obtain ⟨fs, hr, hrun, hended, hW, hsame⟩ := X0.leave (v := some (.int p0)) (fun h => by rw [Bd.returns] at h; cases h)
  refine ⟨_, _, pre0 _ ?_, hrun, hended, _, _, rfl, ?_, ⟨_, rfl⟩, hW, hsame.mono (by decide) (by decide)⟩
  · show Steps p.tables e below (s₁.setTop (mkF m 0 #[.val (.int p0)] [])) _
    refine XS.iloadN X0.here hx rfl (hb hby d2_0) rfl ?_
    show Steps p.tables e below (s₁.setTop (mkF m 1 #[.val (.int p0)] [(.int p0)])) _
    refine XS.iconst X0.here hx rfl (hb hby d2_1) ?_
    show Steps p.tables e below (s₁.setTop (mkF m 2 #[.val (.int p0)] [(.int (1 : Int32)), (.int p0)])) _
    refine XS.icmpNo X0.here hx rfl (hb hby d2_2) rfl (flt (hp1 : ¬ (p0 < (1 : Int32)))).1 ?_
    show Steps p.tables e below (s₁.setTop (mkF m 5 #[.val (.int p0)] [])) _
    refine XS.iloadN X0.here hx rfl (hb hby d2_5) rfl ?_
    show Steps p.tables e below (s₁.setTop (mkF m 6 #[.val (.int p0)] [(.int p0)])) _
    refine XS.bipush X0.here hx rfl (hb hby d2_6) ?_
    show Steps p.tables e below (s₁.setTop (mkF m 8 #[.val (.int p0)] [(.int (100 : Int32)), (.int p0)])) _
    refine XS.icmpYes X0.here hx rfl (pc0 := 8) (pc' := 25) rfl (hb hby d2_8) rfl (flt (hp2 : ¬ ((100 : Int32) < p0))).2.2.2 (by decide) (by decide) ?_
    show Steps p.tables e below (s₁.setTop (mkF m 25 #[.val (.int p0)] [])) _
    refine XS.iloadN X0.here hx rfl (hb hby d2_25) rfl ?_
    show Steps p.tables e below (s₁.setTop (mkF m 26 #[.val (.int p0)] [(.int p0)])) _
    exact retI X0 hx Bd.returns (hb hby d2_26) hr
  · show rm2Q Z p0 h0 n0 _ s₁.heap _
    rw [e0]
    have hres : own_f2 p0 = p0 := by
      simp only [own_f2]
    exact ⟨by rw [hres], N0, rfl⟩
theorem d1_0 : decode prog_16_method_3_code 0 = .ok (.iload_n 0, 1) := by decide +kernel
theorem d1_1 : decode prog_16_method_3_code 1 = .ok (.invokestatic 20, 3) := by decide +kernel
theorem d1_4 : decode prog_16_method_3_code 4 = .ok (.pop, 1) := by decide +kernel
theorem d1_5 : decode prog_16_method_3_code 5 = .ok (.lload_n 1, 1) := by decide +kernel
theorem d1_6 : decode prog_16_method_3_code 6 = .ok (.lconst 0, 1) := by decide +kernel
theorem d1_7 : decode prog_16_method_3_code 7 = .ok (.lcmp, 1) := by decide +kernel
theorem d1_8 : decode prog_16_method_3_code 8 = .ok (.ifCond .ge 17, 3) := by decide +kernel
theorem d1_25 : decode prog_16_method_3_code 25 = .ok (.bipush 100, 2) := by decide +kernel
theorem d1_27 : decode prog_16_method_3_code 27 = .ok (.iload_n 0, 1) := by decide +kernel
theorem d1_28 : decode prog_16_method_3_code 28 = .ok (.isub, 1) := by decide +kernel
theorem d1_29 : decode prog_16_method_3_code 29 = .ok (.istore_n 3, 1) := by decide +kernel
theorem d1_30 : decode prog_16_method_3_code 30 = .ok (.iload_n 3, 1) := by decide +kernel
theorem d1_31 : decode prog_16_method_3_code 31 = .ok (.ifCond .eq 14, 3) := by decide +kernel
theorem d1_34 : decode prog_16_method_3_code 34 = .ok (.lload_n 1, 1) := by decide +kernel
theorem d1_35 : decode prog_16_method_3_code 35 = .ok (.ldc2_w 27, 3) := by decide +kernel
theorem d1_38 : decode prog_16_method_3_code 38 = .ok (.iload_n 3, 1) := by decide +kernel
theorem d1_39 : decode prog_16_method_3_code 39 = .ok (.i2l, 1) := by decide +kernel
theorem d1_40 : decode prog_16_method_3_code 40 = .ok (.ldiv, 1) := by decide +kernel
theorem d1_41 : decode prog_16_method_3_code 41 = .ok (.lcmp, 1) := by decide +kernel
theorem d1_42 : decode prog_16_method_3_code 42 = .ok (.ifCond .le 7, 3) := by decide +kernel
theorem d1_45 : decode prog_16_method_3_code 45 = .ok (.ldc2_w 27, 3) := by decide +kernel
theorem d1_48 : decode prog_16_method_3_code 48 = .ok (.lreturn, 1) := by decide +kernel
theorem d1_49 : decode prog_16_method_3_code 49 = .ok (.lload_n 1, 1) := by decide +kernel
theorem d1_50 : decode prog_16_method_3_code 50 = .ok (.iload_n 3, 1) := by decide +kernel
theorem d1_51 : decode prog_16_method_3_code 51 = .ok (.i2l, 1) := by decide +kernel
theorem d1_52 : decode prog_16_method_3_code 52 = .ok (.lmul, 1) := by decide +kernel
theorem d1_53 : decode prog_16_method_3_code 53 = .ok (.iload_n 0, 1) := by decide +kernel
theorem d1_54 : decode prog_16_method_3_code 54 = .ok (.i2l, 1) := by decide +kernel
theorem d1_55 : decode prog_16_method_3_code 55 = .ok (.ldiv, 1) := by decide +kernel
theorem d1_56 : decode prog_16_method_3_code 56 = .ok (.lreturn, 1) := by decide +kernel
theorem pn_1 : plainName "com/example/gyre/gyre/IoRatio" = true := by first | (simp [plainName, overriddenIn]; done) | decide +kernel
theorem pd_rm1_0 : parseMethodDescriptor "(I)I" = some ⟨[.int], some .int⟩ := by decide +kernel
theorem ef_rm1 (m : MethodId) (p0 : Int32) (q1 : Int64) : entryFrame m #[(.int p0), (.long q1)] 4 = mkF m 0 #[.val (.int p0), .val (.long q1), .second, .unset] [] := by first | (simp [entryFrame, mkF, argsToLocals, Value.category]; done) | rfl
def own_f1 (p0 : Int32) (q1 : Int64) : Int64 :=
  if ((100 : Int32) - p0) = (0 : Int32) then (9223372036854775807 : Int64)
  else (if ((9223372036854775807 : Int64) / (((100 : Int32) - p0).toInt64)) < q1 then (9223372036854775807 : Int64)
  else ((q1 * (((100 : Int32) - p0).toInt64)) / (p0.toInt64)))
def rm1Q (Z : State) (p0 : Int32) (q1 : Int64) (h0 : Heap) (n0 : Nat) (v : Option Value) (h : Heap) (L : List Loc) : Prop := v = some (.long (own_f1 p0 q1)) ∧ Fr n0 L ∧ h = h0
set_option maxRecDepth 65536 in
set_option maxHeartbeats 40000000 in
theorem rm1 (l : Launch) (Z : State) (aw : Array Value) (hw : ∀ d ∈ tables_1, d.before aw Z = true) (ws : List Jvm.Cond) (p0 : Int32) (q1 : Int64) (h0 : Heap) (n0 : Nat) (Z0 : n0 ≤ h0.size) (hp1 : ¬ p0 < (1 : Int32)) (hp2 : ¬ (100 : Int32) < p0) (hp3 : ¬ q1 < (0 : Int64)) :
    MetFree l (⟨"com/example/gyre/gyre/IoRatio", "taskBudgetNanos", "(IJ)J"⟩ : MethodName) (head1 (Jvm.Cond.code (⟨"com/example/gyre/gyre/IoRatio", "taskBudgetNanos", "(IJ)J"⟩ : MethodName) prog_16_method_3_code 4 (some .long) :: ws) ({ frames := 1, cells := 0, slots := 0, locals := 12 } : Room)) (fun a U => a = #[(.int p0), (.long q1)] ∧ Z.Warmed39 U.vm ∧ U.heap = h0) (fun _ _ _ _ _ => True) (fun _ U o U' => ∃ v L, o = .returned v ∧ rm1Q Z p0 q1 h0 n0 v U'.heap L ∧ FrameEnd U o U' L ({ frames := 1, cells := 0, slots := 0, locals := 12 } : Room).cells ({ frames := 1, cells := 0, slots := 0, locals := 12 } : Room).slots) := by
  refine MetFree.of_bodySF (plainFor_of_name pn_1) hisR ?_
  intro p e s m args below meth c s₁ Bd hml0 hP hK
  obtain ⟨rfl, hZ, hh⟩ := hP
  have hx := Bd.exec
  have hby := Bd.bytes
  have hml : c.maxLocals = 4 := hml0
  have hown : s.vm.findClass "com/example/gyre/gyre/IoRatio" = some m.cls := findClass_of_methodNamed Bd.named
  have hnm := (name_of_methodNamed Bd.named Bd.method).1
  have X0 : Stand p l e ({ frames := 1, cells := 0, slots := 0, locals := 12 } : Room) s m #[(.int p0), (.long q1)] below meth c s₁ [] 0 0 := Stand.of_body Bd
  have e0 : s₁.heap = h0 := by rw [← hh, Bd.state]; rfl
  have N0 := Fr.nil n0
  have pre0 : ∀ t, Steps p.tables e below (s₁.setTop (mkF m 0 #[.val (.int p0), .val (.long q1), .second, .unset] [])) t → Steps p.tables e below (s₁.setTop (entryFrame m #[(.int p0), (.long q1)] 4)) t := fun t k => castTop (ef_rm1 m p0 q1) k
  obtain ⟨_, _, ⟨T1, L1, k1, n1⟩, -, X1, ⟨Lc1, hQ1, l1, y1, z1⟩, st1⟩ := Jvm.LawKit.callS X0 hx (y := (⟨"com/example/gyre/gyre/IoRatio", "checkRatio", "(I)I"⟩ : MethodName)) hown (mvT hZ (hw _ (List.mem_of_getElem? (i := 6) rfl))) (mvT hZ (hw _ (List.mem_of_getElem? (i := 7) rfl))) (mvT hZ (hw _ (List.mem_of_getElem? (i := 4) rfl))) (mvT hZ (hw _ (List.mem_of_getElem? (i := 8) rfl))) (by decide) (backOf (W := 0) (rm2 l Z aw hw [] p0 h0 n0 Z0 hp1 hp2) hZ (hw _ (List.mem_of_getElem? (i := 8) rfl)) (hw _ (List.mem_of_getElem? (i := 4) rfl)) (by decide) (by decide)) (g := (mkF m 1 #[.val (.int p0), .val (.long q1), .second, .unset] [(.int p0)])) rfl (by rw [hml]; rfl) (argsL := [(.int p0)]) (rest := []) (lenOf pd_rm1_0 rfl) rfl (by show 2 * 0 + _ ≤ _; exact Nat.le_of_eq rfl) (hb hby d1_1) (fun _ _ => ⟨rfl, e0, (by decide : 0 + 0 ≤ _), (by decide : 0 + 0 ≤ _)⟩)
  dsimp only [Pt.U, Pt.locs, Pt.cells, Pt.slots] at X1 l1 y1 z1 st1 hQ1
  subst l1 y1 z1
  obtain ⟨rfl, N1q, e1q⟩ := hQ1
  have N1 := Fr.app N0 N1q
  have pre2 : ∀ t, Steps p.tables e below (T1.setTop (mkF m 31 #[.val (.int p0), .val (.long q1), .second, .val (.int ((100 : Int32) - p0))] [(.int ((100 : Int32) - p0))])) t → Steps p.tables e below (s₁.setTop (entryFrame m #[(.int p0), (.long q1)] 4)) t := fun t k => pre0 t (by
    show Steps p.tables e below (s₁.setTop (mkF m 0 #[.val (.int p0), .val (.long q1), .second, .unset] [])) _
    refine XS.iloadN X0.here hx rfl (hb hby d1_0) rfl ?_
    show Steps p.tables e below (s₁.setTop (mkF m 1 #[.val (.int p0), .val (.long q1), .second, .unset] [(.int p0)])) _
    refine st1 _ ?_
    show Steps p.tables e below (T1.setTop (mkF m 4 #[.val (.int p0), .val (.long q1), .second, .unset] [(.int (own_f2 p0))])) _
    refine XS.pop X1.here hx rfl (hb hby d1_4) rfl rfl ?_
    show Steps p.tables e below (T1.setTop (mkF m 5 #[.val (.int p0), .val (.long q1), .second, .unset] [])) _
    refine XS.lloadN X1.here hx rfl (hb hby d1_5) rfl ?_
    show Steps p.tables e below (T1.setTop (mkF m 6 #[.val (.int p0), .val (.long q1), .second, .unset] [(.long q1)])) _
    refine XS.lconst X1.here hx rfl (hb hby d1_6) ?_
    show Steps p.tables e below (T1.setTop (mkF m 7 #[.val (.int p0), .val (.long q1), .second, .unset] [(.long (0 : Int64)), (.long q1)])) _
    refine XS.lcmp X1.here hx rfl (hb hby d1_7) rfl ?_
    show Steps p.tables e below (T1.setTop (mkF m 8 #[.val (.int p0), .val (.long q1), .second, .unset] [(.int (lcmpW q1 (0 : Int64)))])) _
    refine XS.ifYes X1.here hx rfl (pc0 := 8) (pc' := 25) rfl (hb hby d1_8) rfl ((if0 _ _).trans (flt (fun q => (hp3 : ¬ (q1 < (0 : Int64))) ((lw_lt _ _).mp q))).2.1) (by decide) (by decide) ?_
    show Steps p.tables e below (T1.setTop (mkF m 25 #[.val (.int p0), .val (.long q1), .second, .unset] [])) _
    refine XS.bipush X1.here hx rfl (hb hby d1_25) ?_
    show Steps p.tables e below (T1.setTop (mkF m 27 #[.val (.int p0), .val (.long q1), .second, .unset] [(.int (100 : Int32))])) _
    refine XS.iloadN X1.here hx rfl (hb hby d1_27) rfl ?_
    show Steps p.tables e below (T1.setTop (mkF m 28 #[.val (.int p0), .val (.long q1), .second, .unset] [(.int p0), (.int (100 : Int32))])) _
    refine XS.isub X1.here hx rfl (hb hby d1_28) rfl ?_
    show Steps p.tables e below (T1.setTop (mkF m 29 #[.val (.int p0), .val (.long q1), .second, .unset] [(.int ((100 : Int32) - p0))])) _
    refine XS.istoreN X1.here hx rfl (hb hby d1_29) rfl (l' := #[.val (.int p0), .val (.long q1), .second, .val (.int ((100 : Int32) - p0))]) rfl ?_
    show Steps p.tables e below (T1.setTop (mkF m 30 #[.val (.int p0), .val (.long q1), .second, .val (.int ((100 : Int32) - p0))] [])) _
    refine XS.iloadN X1.here hx rfl (hb hby d1_30) rfl ?_
    exact k)
  by_cases hc31_3 : ((100 : Int32) - p0) = (0 : Int32)
  · obtain ⟨fs, hr, hrun, hended, hW, hsame⟩ := X1.leave (v := some (.long (9223372036854775807 : Int64))) (fun h => by rw [Bd.returns] at h; cases h)
    refine ⟨_, _, pre2 _ ?_, hrun, hended, _, _, rfl, ?_, ⟨_, rfl⟩, hW, hsame.mono (by decide) (by decide)⟩
    · show Steps p.tables e below (T1.setTop (mkF m 31 #[.val (.int p0), .val (.long q1), .second, .val (.int ((100 : Int32) - p0))] [(.int ((100 : Int32) - p0))])) _
      refine XS.ifYes X1.here hx rfl (pc0 := 31) (pc' := 45) rfl (hb hby d1_31) rfl ((if0 _ _).trans (teq hc31_3).1) (by decide) (by decide) ?_
      show Steps p.tables e below (T1.setTop (mkF m 45 #[.val (.int p0), .val (.long q1), .second, .val (.int ((100 : Int32) - p0))] [])) _
      refine X1.ldc2Long hx hown (mvT hZ (hw _ (List.mem_of_getElem? (i := 9) rfl))) (g := (mkF m 45 #[.val (.int p0), .val (.long q1), .second, .val (.int ((100 : Int32) - p0))] [])) rfl (hb hby d1_45) _ ?_
      show Steps p.tables e below (T1.setTop (mkF m 48 #[.val (.int p0), .val (.long q1), .second, .val (.int ((100 : Int32) - p0))] [(.long (9223372036854775807 : Int64))])) _
      jvm_step X1.here [X1.here.top, hx, (hb hby d1_48), X1.method', Bd.returns, narrow]
      first | (intro acts; rw [hr _ acts rfl rfl rfl]) | rw [hr _ _ rfl rfl rfl]
      exact Steps.refl _
    · show rm1Q Z p0 q1 h0 n0 _ T1.heap _
      rw [e1q]
      have hres : own_f1 p0 q1 = (9223372036854775807 : Int64) := by
        simp only [own_f1, if_pos hc31_3]
      exact ⟨by rw [hres], N1, rfl⟩
  · have pre4 : ∀ t, Steps p.tables e below (T1.setTop (mkF m 42 #[.val (.int p0), .val (.long q1), .second, .val (.int ((100 : Int32) - p0))] [(.int (lcmpW q1 ((9223372036854775807 : Int64) / (((100 : Int32) - p0).toInt64))))])) t → Steps p.tables e below (s₁.setTop (entryFrame m #[(.int p0), (.long q1)] 4)) t := fun t k => pre2 t (by
      show Steps p.tables e below (T1.setTop (mkF m 31 #[.val (.int p0), .val (.long q1), .second, .val (.int ((100 : Int32) - p0))] [(.int ((100 : Int32) - p0))])) _
      refine XS.ifNo X1.here hx rfl (hb hby d1_31) rfl ((if0 _ _).trans (feq hc31_3).1) ?_
      show Steps p.tables e below (T1.setTop (mkF m 34 #[.val (.int p0), .val (.long q1), .second, .val (.int ((100 : Int32) - p0))] [])) _
      refine XS.lloadN X1.here hx rfl (hb hby d1_34) rfl ?_
      show Steps p.tables e below (T1.setTop (mkF m 35 #[.val (.int p0), .val (.long q1), .second, .val (.int ((100 : Int32) - p0))] [(.long q1)])) _
      refine X1.ldc2Long hx hown (mvT hZ (hw _ (List.mem_of_getElem? (i := 9) rfl))) (g := (mkF m 35 #[.val (.int p0), .val (.long q1), .second, .val (.int ((100 : Int32) - p0))] [(.long q1)])) rfl (hb hby d1_35) _ ?_
      show Steps p.tables e below (T1.setTop (mkF m 38 #[.val (.int p0), .val (.long q1), .second, .val (.int ((100 : Int32) - p0))] [(.long (9223372036854775807 : Int64)), (.long q1)])) _
      refine XS.iloadN X1.here hx rfl (hb hby d1_38) rfl ?_
      show Steps p.tables e below (T1.setTop (mkF m 39 #[.val (.int p0), .val (.long q1), .second, .val (.int ((100 : Int32) - p0))] [(.int ((100 : Int32) - p0)), (.long (9223372036854775807 : Int64)), (.long q1)])) _
      refine XS.i2l X1.here hx rfl (hb hby d1_39) rfl ?_
      show Steps p.tables e below (T1.setTop (mkF m 40 #[.val (.int p0), .val (.long q1), .second, .val (.int ((100 : Int32) - p0))] [(.long (((100 : Int32) - p0).toInt64)), (.long (9223372036854775807 : Int64)), (.long q1)])) _
      refine XS.ldiv X1.here hx rfl (hb hby d1_40) rfl (own_nz hc31_3) ?_
      show Steps p.tables e below (T1.setTop (mkF m 41 #[.val (.int p0), .val (.long q1), .second, .val (.int ((100 : Int32) - p0))] [(.long ((9223372036854775807 : Int64) / (((100 : Int32) - p0).toInt64))), (.long q1)])) _
      refine XS.lcmp X1.here hx rfl (hb hby d1_41) rfl ?_
      exact k)
    by_cases hc42_5 : ((9223372036854775807 : Int64) / (((100 : Int32) - p0).toInt64)) < q1
    · obtain ⟨fs, hr, hrun, hended, hW, hsame⟩ := X1.leave (v := some (.long (9223372036854775807 : Int64))) (fun h => by rw [Bd.returns] at h; cases h)
      refine ⟨_, _, pre4 _ ?_, hrun, hended, _, _, rfl, ?_, ⟨_, rfl⟩, hW, hsame.mono (by decide) (by decide)⟩
      · show Steps p.tables e below (T1.setTop (mkF m 42 #[.val (.int p0), .val (.long q1), .second, .val (.int ((100 : Int32) - p0))] [(.int (lcmpW q1 ((9223372036854775807 : Int64) / (((100 : Int32) - p0).toInt64))))])) _
        refine XS.ifNo X1.here hx rfl (hb hby d1_42) rfl ((if0 _ _).trans (tlt ((lw_gt _ _).mpr hc42_5)).2.2.2) ?_
        show Steps p.tables e below (T1.setTop (mkF m 45 #[.val (.int p0), .val (.long q1), .second, .val (.int ((100 : Int32) - p0))] [])) _
        refine X1.ldc2Long hx hown (mvT hZ (hw _ (List.mem_of_getElem? (i := 9) rfl))) (g := (mkF m 45 #[.val (.int p0), .val (.long q1), .second, .val (.int ((100 : Int32) - p0))] [])) rfl (hb hby d1_45) _ ?_
        show Steps p.tables e below (T1.setTop (mkF m 48 #[.val (.int p0), .val (.long q1), .second, .val (.int ((100 : Int32) - p0))] [(.long (9223372036854775807 : Int64))])) _
        jvm_step X1.here [X1.here.top, hx, (hb hby d1_48), X1.method', Bd.returns, narrow]
        first | (intro acts; rw [hr _ acts rfl rfl rfl]) | rw [hr _ _ rfl rfl rfl]
        exact Steps.refl _
      · show rm1Q Z p0 q1 h0 n0 _ T1.heap _
        rw [e1q]
        have hres : own_f1 p0 q1 = (9223372036854775807 : Int64) := by
          simp only [own_f1, if_neg hc31_3, if_pos hc42_5]
        exact ⟨by rw [hres], N1, rfl⟩
    · obtain ⟨fs, hr, hrun, hended, hW, hsame⟩ := X1.leave (v := some (.long ((q1 * (((100 : Int32) - p0).toInt64)) / (p0.toInt64)))) (fun h => by rw [Bd.returns] at h; cases h)
      refine ⟨_, _, pre4 _ ?_, hrun, hended, _, _, rfl, ?_, ⟨_, rfl⟩, hW, hsame.mono (by decide) (by decide)⟩
      · show Steps p.tables e below (T1.setTop (mkF m 42 #[.val (.int p0), .val (.long q1), .second, .val (.int ((100 : Int32) - p0))] [(.int (lcmpW q1 ((9223372036854775807 : Int64) / (((100 : Int32) - p0).toInt64))))])) _
        refine XS.ifYes X1.here hx rfl (pc0 := 42) (pc' := 49) rfl (hb hby d1_42) rfl ((if0 _ _).trans (flt (fun q => hc42_5 ((lw_gt _ _).mp q))).2.2.2) (by decide) (by decide) ?_
        show Steps p.tables e below (T1.setTop (mkF m 49 #[.val (.int p0), .val (.long q1), .second, .val (.int ((100 : Int32) - p0))] [])) _
        refine XS.lloadN X1.here hx rfl (hb hby d1_49) rfl ?_
        show Steps p.tables e below (T1.setTop (mkF m 50 #[.val (.int p0), .val (.long q1), .second, .val (.int ((100 : Int32) - p0))] [(.long q1)])) _
        refine XS.iloadN X1.here hx rfl (hb hby d1_50) rfl ?_
        show Steps p.tables e below (T1.setTop (mkF m 51 #[.val (.int p0), .val (.long q1), .second, .val (.int ((100 : Int32) - p0))] [(.int ((100 : Int32) - p0)), (.long q1)])) _
        refine XS.i2l X1.here hx rfl (hb hby d1_51) rfl ?_
        show Steps p.tables e below (T1.setTop (mkF m 52 #[.val (.int p0), .val (.long q1), .second, .val (.int ((100 : Int32) - p0))] [(.long (((100 : Int32) - p0).toInt64)), (.long q1)])) _
        refine XS.lmul X1.here hx rfl (hb hby d1_52) rfl ?_
        show Steps p.tables e below (T1.setTop (mkF m 53 #[.val (.int p0), .val (.long q1), .second, .val (.int ((100 : Int32) - p0))] [(.long (q1 * (((100 : Int32) - p0).toInt64)))])) _
        refine XS.iloadN X1.here hx rfl (hb hby d1_53) rfl ?_
        show Steps p.tables e below (T1.setTop (mkF m 54 #[.val (.int p0), .val (.long q1), .second, .val (.int ((100 : Int32) - p0))] [(.int p0), (.long (q1 * (((100 : Int32) - p0).toInt64)))])) _
        refine XS.i2l X1.here hx rfl (hb hby d1_54) rfl ?_
        show Steps p.tables e below (T1.setTop (mkF m 55 #[.val (.int p0), .val (.long q1), .second, .val (.int ((100 : Int32) - p0))] [(.long (p0.toInt64)), (.long (q1 * (((100 : Int32) - p0).toInt64)))])) _
        refine XS.ldiv X1.here hx rfl (hb hby d1_55) rfl (own_nz1 hp1) ?_
        show Steps p.tables e below (T1.setTop (mkF m 56 #[.val (.int p0), .val (.long q1), .second, .val (.int ((100 : Int32) - p0))] [(.long ((q1 * (((100 : Int32) - p0).toInt64)) / (p0.toInt64)))])) _
        jvm_step X1.here [X1.here.top, hx, (hb hby d1_56), X1.method', Bd.returns, narrow]
        first | (intro acts; rw [hr _ acts rfl rfl rfl]) | rw [hr _ _ rfl rfl rfl]
        exact Steps.refl _
      · show rm1Q Z p0 q1 h0 n0 _ T1.heap _
        rw [e1q]
        have hres : own_f1 p0 q1 = ((q1 * (((100 : Int32) - p0).toInt64)) / (p0.toInt64)) := by
          simp only [own_f1, if_neg hc31_3, if_neg hc42_5]
        exact ⟨by rw [hres], N1, rfl⟩
theorem pn_0 : plainName "com/example/gyre/gyre/IoRatioTaskBudgetNanosPinLaw" = true := by first | (simp [plainName, overriddenIn]; done) | decide +kernel
theorem pd_rm0_0 : parseMethodDescriptor "(IJ)J" = some ⟨[.int, .long], some .long⟩ := by decide +kernel
theorem ef_rm0 (m : MethodId) (p0 : Int32) (q1 : Int64) : entryFrame m #[(.int p0), (.long q1)] maxLocals = mkF m 0 #[.val (.int p0), .val (.long q1), .second, .unset, .unset, .unset, .unset, .unset, .unset, .unset, .unset, .unset, .unset, .unset] [] := by first | (simp [entryFrame, mkF, argsToLocals, Value.category, maxLocals]; done) | rfl
def own_f0 (p0 : Int32) (q1 : Int64) : Int32 :=
  if ((100 : Int32) - ((own_irem (p0 &&& (2147483647 : Int32)) (100 : Int32)) + (1 : Int32))) = (0 : Int32) then (if (own_f1 ((own_irem (p0 &&& (2147483647 : Int32)) (100 : Int32)) + (1 : Int32)) (q1 &&& (9223372036854775807 : Int64))) = (9223372036854775807 : Int64) then (1 : Int32)
    else (0 : Int32))
  else (if ((q1 &&& (9223372036854775807 : Int64)) * (((100 : Int32) - ((own_irem (p0 &&& (2147483647 : Int32)) (100 : Int32)) + (1 : Int32))).toInt64)) < (0 : Int64) then (if (own_f1 ((own_irem (p0 &&& (2147483647 : Int32)) (100 : Int32)) + (1 : Int32)) (q1 &&& (9223372036854775807 : Int64))) = (9223372036854775807 : Int64) then (1 : Int32)
    else (0 : Int32))
  else (if (((q1 &&& (9223372036854775807 : Int64)) * (((100 : Int32) - ((own_irem (p0 &&& (2147483647 : Int32)) (100 : Int32)) + (1 : Int32))).toInt64)) / (((100 : Int32) - ((own_irem (p0 &&& (2147483647 : Int32)) (100 : Int32)) + (1 : Int32))).toInt64)) = (q1 &&& (9223372036854775807 : Int64)) then (if (own_f1 ((own_irem (p0 &&& (2147483647 : Int32)) (100 : Int32)) + (1 : Int32)) (q1 &&& (9223372036854775807 : Int64))) < (0 : Int64) then (0 : Int32)
    else (if ((9223372036854775807 : Int64) / (((own_irem (p0 &&& (2147483647 : Int32)) (100 : Int32)) + (1 : Int32)).toInt64)) < (own_f1 ((own_irem (p0 &&& (2147483647 : Int32)) (100 : Int32)) + (1 : Int32)) (q1 &&& (9223372036854775807 : Int64))) then (0 : Int32)
    else (if (((q1 &&& (9223372036854775807 : Int64)) * (((100 : Int32) - ((own_irem (p0 &&& (2147483647 : Int32)) (100 : Int32)) + (1 : Int32))).toInt64)) - ((own_f1 ((own_irem (p0 &&& (2147483647 : Int32)) (100 : Int32)) + (1 : Int32)) (q1 &&& (9223372036854775807 : Int64))) * (((own_irem (p0 &&& (2147483647 : Int32)) (100 : Int32)) + (1 : Int32)).toInt64))) < (0 : Int64) then (0 : Int32)
    else (if (((q1 &&& (9223372036854775807 : Int64)) * (((100 : Int32) - ((own_irem (p0 &&& (2147483647 : Int32)) (100 : Int32)) + (1 : Int32))).toInt64)) - ((own_f1 ((own_irem (p0 &&& (2147483647 : Int32)) (100 : Int32)) + (1 : Int32)) (q1 &&& (9223372036854775807 : Int64))) * (((own_irem (p0 &&& (2147483647 : Int32)) (100 : Int32)) + (1 : Int32)).toInt64))) < (((own_irem (p0 &&& (2147483647 : Int32)) (100 : Int32)) + (1 : Int32)).toInt64) then (1 : Int32)
    else (0 : Int32)))))
  else (if (own_f1 ((own_irem (p0 &&& (2147483647 : Int32)) (100 : Int32)) + (1 : Int32)) (q1 &&& (9223372036854775807 : Int64))) = (9223372036854775807 : Int64) then (1 : Int32)
  else (0 : Int32))))
def rm0Q (Z : State) (p0 : Int32) (q1 : Int64) (h0 : Heap) (n0 : Nat) (v : Option Value) (h : Heap) (L : List Loc) : Prop := v = some (.int (own_f0 p0 q1)) ∧ Fr n0 L ∧ h = h0
set_option maxRecDepth 65536 in
set_option maxHeartbeats 40000000 in
theorem rm0 (l : Launch) (Z : State) (aw : Array Value) (hw : ∀ d ∈ tables_1, d.before aw Z = true) (ws : List Jvm.Cond) (p0 : Int32) (q1 : Int64) (h0 : Heap) (n0 : Nat) (Z0 : n0 ≤ h0.size) :
    MetFree l x (head1 (Jvm.Cond.code x code maxLocals ret :: ws) room_1) (fun a U => a = #[(.int p0), (.long q1)] ∧ Z.Warmed39 U.vm ∧ U.heap = h0) (fun _ _ _ _ _ => True) (fun _ U o U' => ∃ v L, o = .returned v ∧ rm0Q Z p0 q1 h0 n0 v U'.heap L ∧ FrameEnd U o U' L room_1.cells room_1.slots) := by
  refine MetFree.of_bodySF (plainFor_of_name pn_0) hisR ?_
  intro p e s m args below meth c s₁ Bd hml0 hP hK
  obtain ⟨rfl, hZ, hh⟩ := hP
  have hx := Bd.exec
  have hby := Bd.bytes
  have hml : c.maxLocals = 14 := hml0
  have hown : s.vm.findClass "com/example/gyre/gyre/IoRatioTaskBudgetNanosPinLaw" = some m.cls := findClass_of_methodNamed Bd.named
  have hnm := (name_of_methodNamed Bd.named Bd.method).1
  have X0 : Stand p l e room_1 s m #[(.int p0), (.long q1)] below meth c s₁ [] 0 0 := Stand.of_body Bd
  have e0 : s₁.heap = h0 := by rw [← hh, Bd.state]; rfl
  have N0 := Fr.nil n0
  have pre0 : ∀ t, Steps p.tables e below (s₁.setTop (mkF m 0 #[.val (.int p0), .val (.long q1), .second, .unset, .unset, .unset, .unset, .unset, .unset, .unset, .unset, .unset, .unset, .unset] [])) t → Steps p.tables e below (s₁.setTop (entryFrame m #[(.int p0), (.long q1)] maxLocals)) t := fun t k => castTop (ef_rm0 m p0 q1) k
  obtain ⟨_, _, ⟨T1, L1, k1, n1⟩, -, X1, ⟨Lc1, hQ1, l1, y1, z1⟩, st1⟩ := Jvm.LawKit.callS X0 hx (y := (⟨"com/example/gyre/gyre/IoRatio", "taskBudgetNanos", "(IJ)J"⟩ : MethodName)) hown (mvT hZ (hw _ (List.mem_of_getElem? (i := 2) rfl))) (mvT hZ (hw _ (List.mem_of_getElem? (i := 3) rfl))) (mvT hZ (hw _ (List.mem_of_getElem? (i := 4) rfl))) (mvT hZ (hw _ (List.mem_of_getElem? (i := 5) rfl))) (by decide) (backOf (W := 0) (rm1 l Z aw hw [] ((own_irem (p0 &&& (2147483647 : Int32)) (100 : Int32)) + (1 : Int32)) (q1 &&& (9223372036854775807 : Int64)) h0 n0 Z0 (own_r1 p0) (own_r2 p0) (own_io q1)) hZ (hw _ (List.mem_of_getElem? (i := 5) rfl)) (hw _ (List.mem_of_getElem? (i := 4) rfl)) (by decide) (by decide)) (g := (mkF m 20 #[.val (.int p0), .val (.long q1), .second, .val (.int ((own_irem (p0 &&& (2147483647 : Int32)) (100 : Int32)) + (1 : Int32))), .val (.long (q1 &&& (9223372036854775807 : Int64))), .second, .unset, .unset, .unset, .unset, .unset, .unset, .unset, .unset] [(.long (q1 &&& (9223372036854775807 : Int64))), (.int ((own_irem (p0 &&& (2147483647 : Int32)) (100 : Int32)) + (1 : Int32)))])) rfl (by rw [hml]; rfl) (argsL := [(.int ((own_irem (p0 &&& (2147483647 : Int32)) (100 : Int32)) + (1 : Int32))), (.long (q1 &&& (9223372036854775807 : Int64)))]) (rest := []) (lenOf pd_rm0_0 rfl) rfl (by show 2 * 0 + _ ≤ _; exact Nat.le_of_eq rfl) (hb hby at_20) (fun _ _ => ⟨rfl, e0, (by decide : 0 + 0 ≤ _), (by decide : 0 + 0 ≤ _)⟩)
  dsimp only [Pt.U, Pt.locs, Pt.cells, Pt.slots] at X1 l1 y1 z1 st1 hQ1
  subst l1 y1 z1
  obtain ⟨rfl, N1q, e1q⟩ := hQ1
  have N1 := Fr.app N0 N1q
  have pre2 : ∀ t, Steps p.tables e below (T1.setTop (mkF m 33 #[.val (.int p0), .val (.long q1), .second, .val (.int ((own_irem (p0 &&& (2147483647 : Int32)) (100 : Int32)) + (1 : Int32))), .val (.long (q1 &&& (9223372036854775807 : Int64))), .second, .val (.long (own_f1 ((own_irem (p0 &&& (2147483647 : Int32)) (100 : Int32)) + (1 : Int32)) (q1 &&& (9223372036854775807 : Int64)))), .second, .val (.int ((100 : Int32) - ((own_irem (p0 &&& (2147483647 : Int32)) (100 : Int32)) + (1 : Int32)))), .unset, .unset, .unset, .unset, .unset] [(.int ((100 : Int32) - ((own_irem (p0 &&& (2147483647 : Int32)) (100 : Int32)) + (1 : Int32))))])) t → Steps p.tables e below (s₁.setTop (entryFrame m #[(.int p0), (.long q1)] maxLocals)) t := fun t k => pre0 t (by
    show Steps p.tables e below (s₁.setTop (mkF m 0 #[.val (.int p0), .val (.long q1), .second, .unset, .unset, .unset, .unset, .unset, .unset, .unset, .unset, .unset, .unset, .unset] [])) _
    refine XS.iloadN X0.here hx rfl (hb hby at_0) rfl ?_
    show Steps p.tables e below (s₁.setTop (mkF m 1 #[.val (.int p0), .val (.long q1), .second, .unset, .unset, .unset, .unset, .unset, .unset, .unset, .unset, .unset, .unset, .unset] [(.int p0)])) _
    refine X0.ldcInt hx hown (mvT hZ (hw _ (List.mem_of_getElem? (i := 0) rfl))) (g := (mkF m 1 #[.val (.int p0), .val (.long q1), .second, .unset, .unset, .unset, .unset, .unset, .unset, .unset, .unset, .unset, .unset, .unset] [(.int p0)])) rfl (hb hby at_1) _ ?_
    show Steps p.tables e below (s₁.setTop (mkF m 3 #[.val (.int p0), .val (.long q1), .second, .unset, .unset, .unset, .unset, .unset, .unset, .unset, .unset, .unset, .unset, .unset] [(.int (2147483647 : Int32)), (.int p0)])) _
    refine XS.iand X0.here hx rfl (hb hby at_3) rfl ?_
    show Steps p.tables e below (s₁.setTop (mkF m 4 #[.val (.int p0), .val (.long q1), .second, .unset, .unset, .unset, .unset, .unset, .unset, .unset, .unset, .unset, .unset, .unset] [(.int (p0 &&& (2147483647 : Int32)))])) _
    refine XS.bipush X0.here hx rfl (hb hby at_4) ?_
    show Steps p.tables e below (s₁.setTop (mkF m 6 #[.val (.int p0), .val (.long q1), .second, .unset, .unset, .unset, .unset, .unset, .unset, .unset, .unset, .unset, .unset, .unset] [(.int (100 : Int32)), (.int (p0 &&& (2147483647 : Int32)))])) _
    refine XS.irem X0.here hx rfl (hb hby at_6) rfl (by decide) ?_
    show Steps p.tables e below (s₁.setTop (mkF m 7 #[.val (.int p0), .val (.long q1), .second, .unset, .unset, .unset, .unset, .unset, .unset, .unset, .unset, .unset, .unset, .unset] [(.int (own_irem (p0 &&& (2147483647 : Int32)) (100 : Int32)))])) _
    refine XS.iconst X0.here hx rfl (hb hby at_7) ?_
    show Steps p.tables e below (s₁.setTop (mkF m 8 #[.val (.int p0), .val (.long q1), .second, .unset, .unset, .unset, .unset, .unset, .unset, .unset, .unset, .unset, .unset, .unset] [(.int (1 : Int32)), (.int (own_irem (p0 &&& (2147483647 : Int32)) (100 : Int32)))])) _
    refine XS.iadd X0.here hx rfl (hb hby at_8) rfl ?_
    show Steps p.tables e below (s₁.setTop (mkF m 9 #[.val (.int p0), .val (.long q1), .second, .unset, .unset, .unset, .unset, .unset, .unset, .unset, .unset, .unset, .unset, .unset] [(.int ((own_irem (p0 &&& (2147483647 : Int32)) (100 : Int32)) + (1 : Int32)))])) _
    refine XS.istoreN X0.here hx rfl (hb hby at_9) rfl (l' := #[.val (.int p0), .val (.long q1), .second, .val (.int ((own_irem (p0 &&& (2147483647 : Int32)) (100 : Int32)) + (1 : Int32))), .unset, .unset, .unset, .unset, .unset, .unset, .unset, .unset, .unset, .unset]) rfl ?_
    show Steps p.tables e below (s₁.setTop (mkF m 10 #[.val (.int p0), .val (.long q1), .second, .val (.int ((own_irem (p0 &&& (2147483647 : Int32)) (100 : Int32)) + (1 : Int32))), .unset, .unset, .unset, .unset, .unset, .unset, .unset, .unset, .unset, .unset] [])) _
    refine XS.lloadN X0.here hx rfl (hb hby at_10) rfl ?_
    show Steps p.tables e below (s₁.setTop (mkF m 11 #[.val (.int p0), .val (.long q1), .second, .val (.int ((own_irem (p0 &&& (2147483647 : Int32)) (100 : Int32)) + (1 : Int32))), .unset, .unset, .unset, .unset, .unset, .unset, .unset, .unset, .unset, .unset] [(.long q1)])) _
    refine X0.ldc2Long hx hown (mvT hZ (hw _ (List.mem_of_getElem? (i := 1) rfl))) (g := (mkF m 11 #[.val (.int p0), .val (.long q1), .second, .val (.int ((own_irem (p0 &&& (2147483647 : Int32)) (100 : Int32)) + (1 : Int32))), .unset, .unset, .unset, .unset, .unset, .unset, .unset, .unset, .unset, .unset] [(.long q1)])) rfl (hb hby at_11) _ ?_
    show Steps p.tables e below (s₁.setTop (mkF m 14 #[.val (.int p0), .val (.long q1), .second, .val (.int ((own_irem (p0 &&& (2147483647 : Int32)) (100 : Int32)) + (1 : Int32))), .unset, .unset, .unset, .unset, .unset, .unset, .unset, .unset, .unset, .unset] [(.long (9223372036854775807 : Int64)), (.long q1)])) _
    refine XS.land X0.here hx rfl (hb hby at_14) rfl ?_
    show Steps p.tables e below (s₁.setTop (mkF m 15 #[.val (.int p0), .val (.long q1), .second, .val (.int ((own_irem (p0 &&& (2147483647 : Int32)) (100 : Int32)) + (1 : Int32))), .unset, .unset, .unset, .unset, .unset, .unset, .unset, .unset, .unset, .unset] [(.long (q1 &&& (9223372036854775807 : Int64)))])) _
    refine XS.lstore X0.here hx rfl (hb hby at_15) rfl (l' := #[.val (.int p0), .val (.long q1), .second, .val (.int ((own_irem (p0 &&& (2147483647 : Int32)) (100 : Int32)) + (1 : Int32))), .val (.long (q1 &&& (9223372036854775807 : Int64))), .second, .unset, .unset, .unset, .unset, .unset, .unset, .unset, .unset]) rfl ?_
    show Steps p.tables e below (s₁.setTop (mkF m 17 #[.val (.int p0), .val (.long q1), .second, .val (.int ((own_irem (p0 &&& (2147483647 : Int32)) (100 : Int32)) + (1 : Int32))), .val (.long (q1 &&& (9223372036854775807 : Int64))), .second, .unset, .unset, .unset, .unset, .unset, .unset, .unset, .unset] [])) _
    refine XS.iloadN X0.here hx rfl (hb hby at_17) rfl ?_
    show Steps p.tables e below (s₁.setTop (mkF m 18 #[.val (.int p0), .val (.long q1), .second, .val (.int ((own_irem (p0 &&& (2147483647 : Int32)) (100 : Int32)) + (1 : Int32))), .val (.long (q1 &&& (9223372036854775807 : Int64))), .second, .unset, .unset, .unset, .unset, .unset, .unset, .unset, .unset] [(.int ((own_irem (p0 &&& (2147483647 : Int32)) (100 : Int32)) + (1 : Int32)))])) _
    refine XS.lload X0.here hx rfl (hb hby at_18) rfl ?_
    show Steps p.tables e below (s₁.setTop (mkF m 20 #[.val (.int p0), .val (.long q1), .second, .val (.int ((own_irem (p0 &&& (2147483647 : Int32)) (100 : Int32)) + (1 : Int32))), .val (.long (q1 &&& (9223372036854775807 : Int64))), .second, .unset, .unset, .unset, .unset, .unset, .unset, .unset, .unset] [(.long (q1 &&& (9223372036854775807 : Int64))), (.int ((own_irem (p0 &&& (2147483647 : Int32)) (100 : Int32)) + (1 : Int32)))])) _
    refine st1 _ ?_
    show Steps p.tables e below (T1.setTop (mkF m 23 #[.val (.int p0), .val (.long q1), .second, .val (.int ((own_irem (p0 &&& (2147483647 : Int32)) (100 : Int32)) + (1 : Int32))), .val (.long (q1 &&& (9223372036854775807 : Int64))), .second, .unset, .unset, .unset, .unset, .unset, .unset, .unset, .unset] [(.long (own_f1 ((own_irem (p0 &&& (2147483647 : Int32)) (100 : Int32)) + (1 : Int32)) (q1 &&& (9223372036854775807 : Int64))))])) _
    refine XS.lstore X1.here hx rfl (hb hby at_23) rfl (l' := #[.val (.int p0), .val (.long q1), .second, .val (.int ((own_irem (p0 &&& (2147483647 : Int32)) (100 : Int32)) + (1 : Int32))), .val (.long (q1 &&& (9223372036854775807 : Int64))), .second, .val (.long (own_f1 ((own_irem (p0 &&& (2147483647 : Int32)) (100 : Int32)) + (1 : Int32)) (q1 &&& (9223372036854775807 : Int64)))), .second, .unset, .unset, .unset, .unset, .unset, .unset]) rfl ?_
    show Steps p.tables e below (T1.setTop (mkF m 25 #[.val (.int p0), .val (.long q1), .second, .val (.int ((own_irem (p0 &&& (2147483647 : Int32)) (100 : Int32)) + (1 : Int32))), .val (.long (q1 &&& (9223372036854775807 : Int64))), .second, .val (.long (own_f1 ((own_irem (p0 &&& (2147483647 : Int32)) (100 : Int32)) + (1 : Int32)) (q1 &&& (9223372036854775807 : Int64)))), .second, .unset, .unset, .unset, .unset, .unset, .unset] [])) _
    refine XS.bipush X1.here hx rfl (hb hby at_25) ?_
    show Steps p.tables e below (T1.setTop (mkF m 27 #[.val (.int p0), .val (.long q1), .second, .val (.int ((own_irem (p0 &&& (2147483647 : Int32)) (100 : Int32)) + (1 : Int32))), .val (.long (q1 &&& (9223372036854775807 : Int64))), .second, .val (.long (own_f1 ((own_irem (p0 &&& (2147483647 : Int32)) (100 : Int32)) + (1 : Int32)) (q1 &&& (9223372036854775807 : Int64)))), .second, .unset, .unset, .unset, .unset, .unset, .unset] [(.int (100 : Int32))])) _
    refine XS.iloadN X1.here hx rfl (hb hby at_27) rfl ?_
    show Steps p.tables e below (T1.setTop (mkF m 28 #[.val (.int p0), .val (.long q1), .second, .val (.int ((own_irem (p0 &&& (2147483647 : Int32)) (100 : Int32)) + (1 : Int32))), .val (.long (q1 &&& (9223372036854775807 : Int64))), .second, .val (.long (own_f1 ((own_irem (p0 &&& (2147483647 : Int32)) (100 : Int32)) + (1 : Int32)) (q1 &&& (9223372036854775807 : Int64)))), .second, .unset, .unset, .unset, .unset, .unset, .unset] [(.int ((own_irem (p0 &&& (2147483647 : Int32)) (100 : Int32)) + (1 : Int32))), (.int (100 : Int32))])) _
    refine XS.isub X1.here hx rfl (hb hby at_28) rfl ?_
    show Steps p.tables e below (T1.setTop (mkF m 29 #[.val (.int p0), .val (.long q1), .second, .val (.int ((own_irem (p0 &&& (2147483647 : Int32)) (100 : Int32)) + (1 : Int32))), .val (.long (q1 &&& (9223372036854775807 : Int64))), .second, .val (.long (own_f1 ((own_irem (p0 &&& (2147483647 : Int32)) (100 : Int32)) + (1 : Int32)) (q1 &&& (9223372036854775807 : Int64)))), .second, .unset, .unset, .unset, .unset, .unset, .unset] [(.int ((100 : Int32) - ((own_irem (p0 &&& (2147483647 : Int32)) (100 : Int32)) + (1 : Int32))))])) _
    refine XS.istore X1.here hx rfl (hb hby at_29) rfl (l' := #[.val (.int p0), .val (.long q1), .second, .val (.int ((own_irem (p0 &&& (2147483647 : Int32)) (100 : Int32)) + (1 : Int32))), .val (.long (q1 &&& (9223372036854775807 : Int64))), .second, .val (.long (own_f1 ((own_irem (p0 &&& (2147483647 : Int32)) (100 : Int32)) + (1 : Int32)) (q1 &&& (9223372036854775807 : Int64)))), .second, .val (.int ((100 : Int32) - ((own_irem (p0 &&& (2147483647 : Int32)) (100 : Int32)) + (1 : Int32)))), .unset, .unset, .unset, .unset, .unset]) rfl ?_
    show Steps p.tables e below (T1.setTop (mkF m 31 #[.val (.int p0), .val (.long q1), .second, .val (.int ((own_irem (p0 &&& (2147483647 : Int32)) (100 : Int32)) + (1 : Int32))), .val (.long (q1 &&& (9223372036854775807 : Int64))), .second, .val (.long (own_f1 ((own_irem (p0 &&& (2147483647 : Int32)) (100 : Int32)) + (1 : Int32)) (q1 &&& (9223372036854775807 : Int64)))), .second, .val (.int ((100 : Int32) - ((own_irem (p0 &&& (2147483647 : Int32)) (100 : Int32)) + (1 : Int32)))), .unset, .unset, .unset, .unset, .unset] [])) _
    refine XS.iload X1.here hx rfl (hb hby at_31) rfl ?_
    exact k)
  by_cases hc33_3 : ((100 : Int32) - ((own_irem (p0 &&& (2147483647 : Int32)) (100 : Int32)) + (1 : Int32))) = (0 : Int32)
  · have pre4 : ∀ t, Steps p.tables e below (T1.setTop (mkF m 42 #[.val (.int p0), .val (.long q1), .second, .val (.int ((own_irem (p0 &&& (2147483647 : Int32)) (100 : Int32)) + (1 : Int32))), .val (.long (q1 &&& (9223372036854775807 : Int64))), .second, .val (.long (own_f1 ((own_irem (p0 &&& (2147483647 : Int32)) (100 : Int32)) + (1 : Int32)) (q1 &&& (9223372036854775807 : Int64)))), .second, .val (.int ((100 : Int32) - ((own_irem (p0 &&& (2147483647 : Int32)) (100 : Int32)) + (1 : Int32)))), .unset, .unset, .unset, .unset, .unset] [(.int (lcmpW (own_f1 ((own_irem (p0 &&& (2147483647 : Int32)) (100 : Int32)) + (1 : Int32)) (q1 &&& (9223372036854775807 : Int64))) (9223372036854775807 : Int64)))])) t → Steps p.tables e below (s₁.setTop (entryFrame m #[(.int p0), (.long q1)] maxLocals)) t := fun t k => pre2 t (by
      show Steps p.tables e below (T1.setTop (mkF m 33 #[.val (.int p0), .val (.long q1), .second, .val (.int ((own_irem (p0 &&& (2147483647 : Int32)) (100 : Int32)) + (1 : Int32))), .val (.long (q1 &&& (9223372036854775807 : Int64))), .second, .val (.long (own_f1 ((own_irem (p0 &&& (2147483647 : Int32)) (100 : Int32)) + (1 : Int32)) (q1 &&& (9223372036854775807 : Int64)))), .second, .val (.int ((100 : Int32) - ((own_irem (p0 &&& (2147483647 : Int32)) (100 : Int32)) + (1 : Int32)))), .unset, .unset, .unset, .unset, .unset] [(.int ((100 : Int32) - ((own_irem (p0 &&& (2147483647 : Int32)) (100 : Int32)) + (1 : Int32))))])) _
      refine XS.ifNo X1.here hx rfl (hb hby at_33) rfl ((if0 _ _).trans (teq hc33_3).2) ?_
      show Steps p.tables e below (T1.setTop (mkF m 36 #[.val (.int p0), .val (.long q1), .second, .val (.int ((own_irem (p0 &&& (2147483647 : Int32)) (100 : Int32)) + (1 : Int32))), .val (.long (q1 &&& (9223372036854775807 : Int64))), .second, .val (.long (own_f1 ((own_irem (p0 &&& (2147483647 : Int32)) (100 : Int32)) + (1 : Int32)) (q1 &&& (9223372036854775807 : Int64)))), .second, .val (.int ((100 : Int32) - ((own_irem (p0 &&& (2147483647 : Int32)) (100 : Int32)) + (1 : Int32)))), .unset, .unset, .unset, .unset, .unset] [])) _
      refine XS.lload X1.here hx rfl (hb hby at_36) rfl ?_
      show Steps p.tables e below (T1.setTop (mkF m 38 #[.val (.int p0), .val (.long q1), .second, .val (.int ((own_irem (p0 &&& (2147483647 : Int32)) (100 : Int32)) + (1 : Int32))), .val (.long (q1 &&& (9223372036854775807 : Int64))), .second, .val (.long (own_f1 ((own_irem (p0 &&& (2147483647 : Int32)) (100 : Int32)) + (1 : Int32)) (q1 &&& (9223372036854775807 : Int64)))), .second, .val (.int ((100 : Int32) - ((own_irem (p0 &&& (2147483647 : Int32)) (100 : Int32)) + (1 : Int32)))), .unset, .unset, .unset, .unset, .unset] [(.long (own_f1 ((own_irem (p0 &&& (2147483647 : Int32)) (100 : Int32)) + (1 : Int32)) (q1 &&& (9223372036854775807 : Int64))))])) _
      refine X1.ldc2Long hx hown (mvT hZ (hw _ (List.mem_of_getElem? (i := 1) rfl))) (g := (mkF m 38 #[.val (.int p0), .val (.long q1), .second, .val (.int ((own_irem (p0 &&& (2147483647 : Int32)) (100 : Int32)) + (1 : Int32))), .val (.long (q1 &&& (9223372036854775807 : Int64))), .second, .val (.long (own_f1 ((own_irem (p0 &&& (2147483647 : Int32)) (100 : Int32)) + (1 : Int32)) (q1 &&& (9223372036854775807 : Int64)))), .second, .val (.int ((100 : Int32) - ((own_irem (p0 &&& (2147483647 : Int32)) (100 : Int32)) + (1 : Int32)))), .unset, .unset, .unset, .unset, .unset] [(.long (own_f1 ((own_irem (p0 &&& (2147483647 : Int32)) (100 : Int32)) + (1 : Int32)) (q1 &&& (9223372036854775807 : Int64))))])) rfl (hb hby at_38) _ ?_
      show Steps p.tables e below (T1.setTop (mkF m 41 #[.val (.int p0), .val (.long q1), .second, .val (.int ((own_irem (p0 &&& (2147483647 : Int32)) (100 : Int32)) + (1 : Int32))), .val (.long (q1 &&& (9223372036854775807 : Int64))), .second, .val (.long (own_f1 ((own_irem (p0 &&& (2147483647 : Int32)) (100 : Int32)) + (1 : Int32)) (q1 &&& (9223372036854775807 : Int64)))), .second, .val (.int ((100 : Int32) - ((own_irem (p0 &&& (2147483647 : Int32)) (100 : Int32)) + (1 : Int32)))), .unset, .unset, .unset, .unset, .unset] [(.long (9223372036854775807 : Int64)), (.long (own_f1 ((own_irem (p0 &&& (2147483647 : Int32)) (100 : Int32)) + (1 : Int32)) (q1 &&& (9223372036854775807 : Int64))))])) _
      refine XS.lcmp X1.here hx rfl (hb hby at_41) rfl ?_
      exact k)
    by_cases hc42_5 : (own_f1 ((own_irem (p0 &&& (2147483647 : Int32)) (100 : Int32)) + (1 : Int32)) (q1 &&& (9223372036854775807 : Int64))) = (9223372036854775807 : Int64)
    · obtain ⟨fs, hr, hrun, hended, hW, hsame⟩ := X1.leave (v := some (.int (1 : Int32))) (fun h => by rw [Bd.returns] at h; cases h)
      refine ⟨_, _, pre4 _ ?_, hrun, hended, _, _, rfl, ?_, ⟨_, rfl⟩, hW, hsame.mono (by decide) (by decide)⟩
      · show Steps p.tables e below (T1.setTop (mkF m 42 #[.val (.int p0), .val (.long q1), .second, .val (.int ((own_irem (p0 &&& (2147483647 : Int32)) (100 : Int32)) + (1 : Int32))), .val (.long (q1 &&& (9223372036854775807 : Int64))), .second, .val (.long (own_f1 ((own_irem (p0 &&& (2147483647 : Int32)) (100 : Int32)) + (1 : Int32)) (q1 &&& (9223372036854775807 : Int64)))), .second, .val (.int ((100 : Int32) - ((own_irem (p0 &&& (2147483647 : Int32)) (100 : Int32)) + (1 : Int32)))), .unset, .unset, .unset, .unset, .unset] [(.int (lcmpW (own_f1 ((own_irem (p0 &&& (2147483647 : Int32)) (100 : Int32)) + (1 : Int32)) (q1 &&& (9223372036854775807 : Int64))) (9223372036854775807 : Int64)))])) _
        refine XS.ifNo X1.here hx rfl (hb hby at_42) rfl ((if0 _ _).trans (teq ((lw_eq _ _).mpr hc42_5)).2) ?_
        show Steps p.tables e below (T1.setTop (mkF m 45 #[.val (.int p0), .val (.long q1), .second, .val (.int ((own_irem (p0 &&& (2147483647 : Int32)) (100 : Int32)) + (1 : Int32))), .val (.long (q1 &&& (9223372036854775807 : Int64))), .second, .val (.long (own_f1 ((own_irem (p0 &&& (2147483647 : Int32)) (100 : Int32)) + (1 : Int32)) (q1 &&& (9223372036854775807 : Int64)))), .second, .val (.int ((100 : Int32) - ((own_irem (p0 &&& (2147483647 : Int32)) (100 : Int32)) + (1 : Int32)))), .unset, .unset, .unset, .unset, .unset] [])) _
        refine XS.iconst X1.here hx rfl (hb hby at_45) ?_
        show Steps p.tables e below (T1.setTop (mkF m 46 #[.val (.int p0), .val (.long q1), .second, .val (.int ((own_irem (p0 &&& (2147483647 : Int32)) (100 : Int32)) + (1 : Int32))), .val (.long (q1 &&& (9223372036854775807 : Int64))), .second, .val (.long (own_f1 ((own_irem (p0 &&& (2147483647 : Int32)) (100 : Int32)) + (1 : Int32)) (q1 &&& (9223372036854775807 : Int64)))), .second, .val (.int ((100 : Int32) - ((own_irem (p0 &&& (2147483647 : Int32)) (100 : Int32)) + (1 : Int32)))), .unset, .unset, .unset, .unset, .unset] [(.int (1 : Int32))])) _
        refine XS.goto X1.here hx rfl (pc0 := 46) (pc' := 50) rfl (hb hby at_46) (by decide) (by decide) ?_
        show Steps p.tables e below (T1.setTop (mkF m 50 #[.val (.int p0), .val (.long q1), .second, .val (.int ((own_irem (p0 &&& (2147483647 : Int32)) (100 : Int32)) + (1 : Int32))), .val (.long (q1 &&& (9223372036854775807 : Int64))), .second, .val (.long (own_f1 ((own_irem (p0 &&& (2147483647 : Int32)) (100 : Int32)) + (1 : Int32)) (q1 &&& (9223372036854775807 : Int64)))), .second, .val (.int ((100 : Int32) - ((own_irem (p0 &&& (2147483647 : Int32)) (100 : Int32)) + (1 : Int32)))), .unset, .unset, .unset, .unset, .unset] [(.int (1 : Int32))])) _
        exact retN X1 hx (t := .boolean) Bd.returns (by simp) (hb hby at_50) hr
      · show rm0Q Z p0 q1 h0 n0 _ T1.heap _
        rw [e1q]
        have hres : own_f0 p0 q1 = (1 : Int32) := by
          simp only [own_f0, if_pos hc33_3, if_pos hc42_5]
        exact ⟨by rw [hres], N1, rfl⟩
    · obtain ⟨fs, hr, hrun, hended, hW, hsame⟩ := X1.leave (v := some (.int (0 : Int32))) (fun h => by rw [Bd.returns] at h; cases h)
      refine ⟨_, _, pre4 _ ?_, hrun, hended, _, _, rfl, ?_, ⟨_, rfl⟩, hW, hsame.mono (by decide) (by decide)⟩
      · show Steps p.tables e below (T1.setTop (mkF m 42 #[.val (.int p0), .val (.long q1), .second, .val (.int ((own_irem (p0 &&& (2147483647 : Int32)) (100 : Int32)) + (1 : Int32))), .val (.long (q1 &&& (9223372036854775807 : Int64))), .second, .val (.long (own_f1 ((own_irem (p0 &&& (2147483647 : Int32)) (100 : Int32)) + (1 : Int32)) (q1 &&& (9223372036854775807 : Int64)))), .second, .val (.int ((100 : Int32) - ((own_irem (p0 &&& (2147483647 : Int32)) (100 : Int32)) + (1 : Int32)))), .unset, .unset, .unset, .unset, .unset] [(.int (lcmpW (own_f1 ((own_irem (p0 &&& (2147483647 : Int32)) (100 : Int32)) + (1 : Int32)) (q1 &&& (9223372036854775807 : Int64))) (9223372036854775807 : Int64)))])) _
        refine XS.ifYes X1.here hx rfl (pc0 := 42) (pc' := 49) rfl (hb hby at_42) rfl ((if0 _ _).trans (feq (fun q => hc42_5 ((lw_eq _ _).mp q))).2) (by decide) (by decide) ?_
        show Steps p.tables e below (T1.setTop (mkF m 49 #[.val (.int p0), .val (.long q1), .second, .val (.int ((own_irem (p0 &&& (2147483647 : Int32)) (100 : Int32)) + (1 : Int32))), .val (.long (q1 &&& (9223372036854775807 : Int64))), .second, .val (.long (own_f1 ((own_irem (p0 &&& (2147483647 : Int32)) (100 : Int32)) + (1 : Int32)) (q1 &&& (9223372036854775807 : Int64)))), .second, .val (.int ((100 : Int32) - ((own_irem (p0 &&& (2147483647 : Int32)) (100 : Int32)) + (1 : Int32)))), .unset, .unset, .unset, .unset, .unset] [])) _
        refine XS.iconst X1.here hx rfl (hb hby at_49) ?_
        show Steps p.tables e below (T1.setTop (mkF m 50 #[.val (.int p0), .val (.long q1), .second, .val (.int ((own_irem (p0 &&& (2147483647 : Int32)) (100 : Int32)) + (1 : Int32))), .val (.long (q1 &&& (9223372036854775807 : Int64))), .second, .val (.long (own_f1 ((own_irem (p0 &&& (2147483647 : Int32)) (100 : Int32)) + (1 : Int32)) (q1 &&& (9223372036854775807 : Int64)))), .second, .val (.int ((100 : Int32) - ((own_irem (p0 &&& (2147483647 : Int32)) (100 : Int32)) + (1 : Int32)))), .unset, .unset, .unset, .unset, .unset] [(.int (0 : Int32))])) _
        exact retN X1 hx (t := .boolean) Bd.returns (by simp) (hb hby at_50) hr
      · show rm0Q Z p0 q1 h0 n0 _ T1.heap _
        rw [e1q]
        have hres : own_f0 p0 q1 = (0 : Int32) := by
          simp only [own_f0, if_pos hc33_3, if_neg hc42_5]
        exact ⟨by rw [hres], N1, rfl⟩
  · have pre6 : ∀ t, Steps p.tables e below (T1.setTop (mkF m 63 #[.val (.int p0), .val (.long q1), .second, .val (.int ((own_irem (p0 &&& (2147483647 : Int32)) (100 : Int32)) + (1 : Int32))), .val (.long (q1 &&& (9223372036854775807 : Int64))), .second, .val (.long (own_f1 ((own_irem (p0 &&& (2147483647 : Int32)) (100 : Int32)) + (1 : Int32)) (q1 &&& (9223372036854775807 : Int64)))), .second, .val (.int ((100 : Int32) - ((own_irem (p0 &&& (2147483647 : Int32)) (100 : Int32)) + (1 : Int32)))), .val (.long ((q1 &&& (9223372036854775807 : Int64)) * (((100 : Int32) - ((own_irem (p0 &&& (2147483647 : Int32)) (100 : Int32)) + (1 : Int32))).toInt64))), .second, .unset, .unset, .unset] [(.int (lcmpW ((q1 &&& (9223372036854775807 : Int64)) * (((100 : Int32) - ((own_irem (p0 &&& (2147483647 : Int32)) (100 : Int32)) + (1 : Int32))).toInt64)) (0 : Int64)))])) t → Steps p.tables e below (s₁.setTop (entryFrame m #[(.int p0), (.long q1)] maxLocals)) t := fun t k => pre2 t (by
      show Steps p.tables e below (T1.setTop (mkF m 33 #[.val (.int p0), .val (.long q1), .second, .val (.int ((own_irem (p0 &&& (2147483647 : Int32)) (100 : Int32)) + (1 : Int32))), .val (.long (q1 &&& (9223372036854775807 : Int64))), .second, .val (.long (own_f1 ((own_irem (p0 &&& (2147483647 : Int32)) (100 : Int32)) + (1 : Int32)) (q1 &&& (9223372036854775807 : Int64)))), .second, .val (.int ((100 : Int32) - ((own_irem (p0 &&& (2147483647 : Int32)) (100 : Int32)) + (1 : Int32)))), .unset, .unset, .unset, .unset, .unset] [(.int ((100 : Int32) - ((own_irem (p0 &&& (2147483647 : Int32)) (100 : Int32)) + (1 : Int32))))])) _
      refine XS.ifYes X1.here hx rfl (pc0 := 33) (pc' := 51) rfl (hb hby at_33) rfl ((if0 _ _).trans (feq hc33_3).2) (by decide) (by decide) ?_
      show Steps p.tables e below (T1.setTop (mkF m 51 #[.val (.int p0), .val (.long q1), .second, .val (.int ((own_irem (p0 &&& (2147483647 : Int32)) (100 : Int32)) + (1 : Int32))), .val (.long (q1 &&& (9223372036854775807 : Int64))), .second, .val (.long (own_f1 ((own_irem (p0 &&& (2147483647 : Int32)) (100 : Int32)) + (1 : Int32)) (q1 &&& (9223372036854775807 : Int64)))), .second, .val (.int ((100 : Int32) - ((own_irem (p0 &&& (2147483647 : Int32)) (100 : Int32)) + (1 : Int32)))), .unset, .unset, .unset, .unset, .unset] [])) _
      refine XS.lload X1.here hx rfl (hb hby at_51) rfl ?_
      show Steps p.tables e below (T1.setTop (mkF m 53 #[.val (.int p0), .val (.long q1), .second, .val (.int ((own_irem (p0 &&& (2147483647 : Int32)) (100 : Int32)) + (1 : Int32))), .val (.long (q1 &&& (9223372036854775807 : Int64))), .second, .val (.long (own_f1 ((own_irem (p0 &&& (2147483647 : Int32)) (100 : Int32)) + (1 : Int32)) (q1 &&& (9223372036854775807 : Int64)))), .second, .val (.int ((100 : Int32) - ((own_irem (p0 &&& (2147483647 : Int32)) (100 : Int32)) + (1 : Int32)))), .unset, .unset, .unset, .unset, .unset] [(.long (q1 &&& (9223372036854775807 : Int64)))])) _
      refine XS.iload X1.here hx rfl (hb hby at_53) rfl ?_
      show Steps p.tables e below (T1.setTop (mkF m 55 #[.val (.int p0), .val (.long q1), .second, .val (.int ((own_irem (p0 &&& (2147483647 : Int32)) (100 : Int32)) + (1 : Int32))), .val (.long (q1 &&& (9223372036854775807 : Int64))), .second, .val (.long (own_f1 ((own_irem (p0 &&& (2147483647 : Int32)) (100 : Int32)) + (1 : Int32)) (q1 &&& (9223372036854775807 : Int64)))), .second, .val (.int ((100 : Int32) - ((own_irem (p0 &&& (2147483647 : Int32)) (100 : Int32)) + (1 : Int32)))), .unset, .unset, .unset, .unset, .unset] [(.int ((100 : Int32) - ((own_irem (p0 &&& (2147483647 : Int32)) (100 : Int32)) + (1 : Int32)))), (.long (q1 &&& (9223372036854775807 : Int64)))])) _
      refine XS.i2l X1.here hx rfl (hb hby at_55) rfl ?_
      show Steps p.tables e below (T1.setTop (mkF m 56 #[.val (.int p0), .val (.long q1), .second, .val (.int ((own_irem (p0 &&& (2147483647 : Int32)) (100 : Int32)) + (1 : Int32))), .val (.long (q1 &&& (9223372036854775807 : Int64))), .second, .val (.long (own_f1 ((own_irem (p0 &&& (2147483647 : Int32)) (100 : Int32)) + (1 : Int32)) (q1 &&& (9223372036854775807 : Int64)))), .second, .val (.int ((100 : Int32) - ((own_irem (p0 &&& (2147483647 : Int32)) (100 : Int32)) + (1 : Int32)))), .unset, .unset, .unset, .unset, .unset] [(.long (((100 : Int32) - ((own_irem (p0 &&& (2147483647 : Int32)) (100 : Int32)) + (1 : Int32))).toInt64)), (.long (q1 &&& (9223372036854775807 : Int64)))])) _
      refine XS.lmul X1.here hx rfl (hb hby at_56) rfl ?_
      show Steps p.tables e below (T1.setTop (mkF m 57 #[.val (.int p0), .val (.long q1), .second, .val (.int ((own_irem (p0 &&& (2147483647 : Int32)) (100 : Int32)) + (1 : Int32))), .val (.long (q1 &&& (9223372036854775807 : Int64))), .second, .val (.long (own_f1 ((own_irem (p0 &&& (2147483647 : Int32)) (100 : Int32)) + (1 : Int32)) (q1 &&& (9223372036854775807 : Int64)))), .second, .val (.int ((100 : Int32) - ((own_irem (p0 &&& (2147483647 : Int32)) (100 : Int32)) + (1 : Int32)))), .unset, .unset, .unset, .unset, .unset] [(.long ((q1 &&& (9223372036854775807 : Int64)) * (((100 : Int32) - ((own_irem (p0 &&& (2147483647 : Int32)) (100 : Int32)) + (1 : Int32))).toInt64)))])) _
      refine XS.lstore X1.here hx rfl (hb hby at_57) rfl (l' := #[.val (.int p0), .val (.long q1), .second, .val (.int ((own_irem (p0 &&& (2147483647 : Int32)) (100 : Int32)) + (1 : Int32))), .val (.long (q1 &&& (9223372036854775807 : Int64))), .second, .val (.long (own_f1 ((own_irem (p0 &&& (2147483647 : Int32)) (100 : Int32)) + (1 : Int32)) (q1 &&& (9223372036854775807 : Int64)))), .second, .val (.int ((100 : Int32) - ((own_irem (p0 &&& (2147483647 : Int32)) (100 : Int32)) + (1 : Int32)))), .val (.long ((q1 &&& (9223372036854775807 : Int64)) * (((100 : Int32) - ((own_irem (p0 &&& (2147483647 : Int32)) (100 : Int32)) + (1 : Int32))).toInt64))), .second, .unset, .unset, .unset]) rfl ?_
      show Steps p.tables e below (T1.setTop (mkF m 59 #[.val (.int p0), .val (.long q1), .second, .val (.int ((own_irem (p0 &&& (2147483647 : Int32)) (100 : Int32)) + (1 : Int32))), .val (.long (q1 &&& (9223372036854775807 : Int64))), .second, .val (.long (own_f1 ((own_irem (p0 &&& (2147483647 : Int32)) (100 : Int32)) + (1 : Int32)) (q1 &&& (9223372036854775807 : Int64)))), .second, .val (.int ((100 : Int32) - ((own_irem (p0 &&& (2147483647 : Int32)) (100 : Int32)) + (1 : Int32)))), .val (.long ((q1 &&& (9223372036854775807 : Int64)) * (((100 : Int32) - ((own_irem (p0 &&& (2147483647 : Int32)) (100 : Int32)) + (1 : Int32))).toInt64))), .second, .unset, .unset, .unset] [])) _
      refine XS.lload X1.here hx rfl (hb hby at_59) rfl ?_
      show Steps p.tables e below (T1.setTop (mkF m 61 #[.val (.int p0), .val (.long q1), .second, .val (.int ((own_irem (p0 &&& (2147483647 : Int32)) (100 : Int32)) + (1 : Int32))), .val (.long (q1 &&& (9223372036854775807 : Int64))), .second, .val (.long (own_f1 ((own_irem (p0 &&& (2147483647 : Int32)) (100 : Int32)) + (1 : Int32)) (q1 &&& (9223372036854775807 : Int64)))), .second, .val (.int ((100 : Int32) - ((own_irem (p0 &&& (2147483647 : Int32)) (100 : Int32)) + (1 : Int32)))), .val (.long ((q1 &&& (9223372036854775807 : Int64)) * (((100 : Int32) - ((own_irem (p0 &&& (2147483647 : Int32)) (100 : Int32)) + (1 : Int32))).toInt64))), .second, .unset, .unset, .unset] [(.long ((q1 &&& (9223372036854775807 : Int64)) * (((100 : Int32) - ((own_irem (p0 &&& (2147483647 : Int32)) (100 : Int32)) + (1 : Int32))).toInt64)))])) _
      refine XS.lconst X1.here hx rfl (hb hby at_61) ?_
      show Steps p.tables e below (T1.setTop (mkF m 62 #[.val (.int p0), .val (.long q1), .second, .val (.int ((own_irem (p0 &&& (2147483647 : Int32)) (100 : Int32)) + (1 : Int32))), .val (.long (q1 &&& (9223372036854775807 : Int64))), .second, .val (.long (own_f1 ((own_irem (p0 &&& (2147483647 : Int32)) (100 : Int32)) + (1 : Int32)) (q1 &&& (9223372036854775807 : Int64)))), .second, .val (.int ((100 : Int32) - ((own_irem (p0 &&& (2147483647 : Int32)) (100 : Int32)) + (1 : Int32)))), .val (.long ((q1 &&& (9223372036854775807 : Int64)) * (((100 : Int32) - ((own_irem (p0 &&& (2147483647 : Int32)) (100 : Int32)) + (1 : Int32))).toInt64))), .second, .unset, .unset, .unset] [(.long (0 : Int64)), (.long ((q1 &&& (9223372036854775807 : Int64)) * (((100 : Int32) - ((own_irem (p0 &&& (2147483647 : Int32)) (100 : Int32)) + (1 : Int32))).toInt64)))])) _
      refine XS.lcmp X1.here hx rfl (hb hby at_62) rfl ?_
      exact k)
    by_cases hc63_7 : ((q1 &&& (9223372036854775807 : Int64)) * (((100 : Int32) - ((own_irem (p0 &&& (2147483647 : Int32)) (100 : Int32)) + (1 : Int32))).toInt64)) < (0 : Int64)
    · have pre8 : ∀ t, Steps p.tables e below (T1.setTop (mkF m 96 #[.val (.int p0), .val (.long q1), .second, .val (.int ((own_irem (p0 &&& (2147483647 : Int32)) (100 : Int32)) + (1 : Int32))), .val (.long (q1 &&& (9223372036854775807 : Int64))), .second, .val (.long (own_f1 ((own_irem (p0 &&& (2147483647 : Int32)) (100 : Int32)) + (1 : Int32)) (q1 &&& (9223372036854775807 : Int64)))), .second, .val (.int ((100 : Int32) - ((own_irem (p0 &&& (2147483647 : Int32)) (100 : Int32)) + (1 : Int32)))), .val (.long ((q1 &&& (9223372036854775807 : Int64)) * (((100 : Int32) - ((own_irem (p0 &&& (2147483647 : Int32)) (100 : Int32)) + (1 : Int32))).toInt64))), .second, .val (.int (1 : Int32)), .unset, .unset] [(.int (lcmpW (own_f1 ((own_irem (p0 &&& (2147483647 : Int32)) (100 : Int32)) + (1 : Int32)) (q1 &&& (9223372036854775807 : Int64))) (9223372036854775807 : Int64)))])) t → Steps p.tables e below (s₁.setTop (entryFrame m #[(.int p0), (.long q1)] maxLocals)) t := fun t k => pre6 t (by
        show Steps p.tables e below (T1.setTop (mkF m 63 #[.val (.int p0), .val (.long q1), .second, .val (.int ((own_irem (p0 &&& (2147483647 : Int32)) (100 : Int32)) + (1 : Int32))), .val (.long (q1 &&& (9223372036854775807 : Int64))), .second, .val (.long (own_f1 ((own_irem (p0 &&& (2147483647 : Int32)) (100 : Int32)) + (1 : Int32)) (q1 &&& (9223372036854775807 : Int64)))), .second, .val (.int ((100 : Int32) - ((own_irem (p0 &&& (2147483647 : Int32)) (100 : Int32)) + (1 : Int32)))), .val (.long ((q1 &&& (9223372036854775807 : Int64)) * (((100 : Int32) - ((own_irem (p0 &&& (2147483647 : Int32)) (100 : Int32)) + (1 : Int32))).toInt64))), .second, .unset, .unset, .unset] [(.int (lcmpW ((q1 &&& (9223372036854775807 : Int64)) * (((100 : Int32) - ((own_irem (p0 &&& (2147483647 : Int32)) (100 : Int32)) + (1 : Int32))).toInt64)) (0 : Int64)))])) _
        refine XS.ifYes X1.here hx rfl (pc0 := 63) (pc' := 78) rfl (hb hby at_63) rfl ((if0 _ _).trans (tlt ((lw_lt _ _).mpr hc63_7)).1) (by decide) (by decide) ?_
        show Steps p.tables e below (T1.setTop (mkF m 78 #[.val (.int p0), .val (.long q1), .second, .val (.int ((own_irem (p0 &&& (2147483647 : Int32)) (100 : Int32)) + (1 : Int32))), .val (.long (q1 &&& (9223372036854775807 : Int64))), .second, .val (.long (own_f1 ((own_irem (p0 &&& (2147483647 : Int32)) (100 : Int32)) + (1 : Int32)) (q1 &&& (9223372036854775807 : Int64)))), .second, .val (.int ((100 : Int32) - ((own_irem (p0 &&& (2147483647 : Int32)) (100 : Int32)) + (1 : Int32)))), .val (.long ((q1 &&& (9223372036854775807 : Int64)) * (((100 : Int32) - ((own_irem (p0 &&& (2147483647 : Int32)) (100 : Int32)) + (1 : Int32))).toInt64))), .second, .unset, .unset, .unset] [])) _
        refine XS.iconst X1.here hx rfl (hb hby at_78) ?_
        show Steps p.tables e below (T1.setTop (mkF m 79 #[.val (.int p0), .val (.long q1), .second, .val (.int ((own_irem (p0 &&& (2147483647 : Int32)) (100 : Int32)) + (1 : Int32))), .val (.long (q1 &&& (9223372036854775807 : Int64))), .second, .val (.long (own_f1 ((own_irem (p0 &&& (2147483647 : Int32)) (100 : Int32)) + (1 : Int32)) (q1 &&& (9223372036854775807 : Int64)))), .second, .val (.int ((100 : Int32) - ((own_irem (p0 &&& (2147483647 : Int32)) (100 : Int32)) + (1 : Int32)))), .val (.long ((q1 &&& (9223372036854775807 : Int64)) * (((100 : Int32) - ((own_irem (p0 &&& (2147483647 : Int32)) (100 : Int32)) + (1 : Int32))).toInt64))), .second, .unset, .unset, .unset] [(.int (1 : Int32))])) _
        refine XS.goto X1.here hx rfl (pc0 := 79) (pc' := 83) rfl (hb hby at_79) (by decide) (by decide) ?_
        show Steps p.tables e below (T1.setTop (mkF m 83 #[.val (.int p0), .val (.long q1), .second, .val (.int ((own_irem (p0 &&& (2147483647 : Int32)) (100 : Int32)) + (1 : Int32))), .val (.long (q1 &&& (9223372036854775807 : Int64))), .second, .val (.long (own_f1 ((own_irem (p0 &&& (2147483647 : Int32)) (100 : Int32)) + (1 : Int32)) (q1 &&& (9223372036854775807 : Int64)))), .second, .val (.int ((100 : Int32) - ((own_irem (p0 &&& (2147483647 : Int32)) (100 : Int32)) + (1 : Int32)))), .val (.long ((q1 &&& (9223372036854775807 : Int64)) * (((100 : Int32) - ((own_irem (p0 &&& (2147483647 : Int32)) (100 : Int32)) + (1 : Int32))).toInt64))), .second, .unset, .unset, .unset] [(.int (1 : Int32))])) _
        refine XS.istore X1.here hx rfl (hb hby at_83) rfl (l' := #[.val (.int p0), .val (.long q1), .second, .val (.int ((own_irem (p0 &&& (2147483647 : Int32)) (100 : Int32)) + (1 : Int32))), .val (.long (q1 &&& (9223372036854775807 : Int64))), .second, .val (.long (own_f1 ((own_irem (p0 &&& (2147483647 : Int32)) (100 : Int32)) + (1 : Int32)) (q1 &&& (9223372036854775807 : Int64)))), .second, .val (.int ((100 : Int32) - ((own_irem (p0 &&& (2147483647 : Int32)) (100 : Int32)) + (1 : Int32)))), .val (.long ((q1 &&& (9223372036854775807 : Int64)) * (((100 : Int32) - ((own_irem (p0 &&& (2147483647 : Int32)) (100 : Int32)) + (1 : Int32))).toInt64))), .second, .val (.int (1 : Int32)), .unset, .unset]) rfl ?_
        show Steps p.tables e below (T1.setTop (mkF m 85 #[.val (.int p0), .val (.long q1), .second, .val (.int ((own_irem (p0 &&& (2147483647 : Int32)) (100 : Int32)) + (1 : Int32))), .val (.long (q1 &&& (9223372036854775807 : Int64))), .second, .val (.long (own_f1 ((own_irem (p0 &&& (2147483647 : Int32)) (100 : Int32)) + (1 : Int32)) (q1 &&& (9223372036854775807 : Int64)))), .second, .val (.int ((100 : Int32) - ((own_irem (p0 &&& (2147483647 : Int32)) (100 : Int32)) + (1 : Int32)))), .val (.long ((q1 &&& (9223372036854775807 : Int64)) * (((100 : Int32) - ((own_irem (p0 &&& (2147483647 : Int32)) (100 : Int32)) + (1 : Int32))).toInt64))), .second, .val (.int (1 : Int32)), .unset, .unset] [])) _
        refine XS.iload X1.here hx rfl (hb hby at_85) rfl ?_
        show Steps p.tables e below (T1.setTop (mkF m 87 #[.val (.int p0), .val (.long q1), .second, .val (.int ((own_irem (p0 &&& (2147483647 : Int32)) (100 : Int32)) + (1 : Int32))), .val (.long (q1 &&& (9223372036854775807 : Int64))), .second, .val (.long (own_f1 ((own_irem (p0 &&& (2147483647 : Int32)) (100 : Int32)) + (1 : Int32)) (q1 &&& (9223372036854775807 : Int64)))), .second, .val (.int ((100 : Int32) - ((own_irem (p0 &&& (2147483647 : Int32)) (100 : Int32)) + (1 : Int32)))), .val (.long ((q1 &&& (9223372036854775807 : Int64)) * (((100 : Int32) - ((own_irem (p0 &&& (2147483647 : Int32)) (100 : Int32)) + (1 : Int32))).toInt64))), .second, .val (.int (1 : Int32)), .unset, .unset] [(.int (1 : Int32))])) _
        refine XS.ifNo X1.here hx rfl (hb hby at_87) rfl ((if0 _ _).trans (feq ((by decide) : ¬ ((1 : Int32) = (0 : Int32)))).1) ?_
        show Steps p.tables e below (T1.setTop (mkF m 90 #[.val (.int p0), .val (.long q1), .second, .val (.int ((own_irem (p0 &&& (2147483647 : Int32)) (100 : Int32)) + (1 : Int32))), .val (.long (q1 &&& (9223372036854775807 : Int64))), .second, .val (.long (own_f1 ((own_irem (p0 &&& (2147483647 : Int32)) (100 : Int32)) + (1 : Int32)) (q1 &&& (9223372036854775807 : Int64)))), .second, .val (.int ((100 : Int32) - ((own_irem (p0 &&& (2147483647 : Int32)) (100 : Int32)) + (1 : Int32)))), .val (.long ((q1 &&& (9223372036854775807 : Int64)) * (((100 : Int32) - ((own_irem (p0 &&& (2147483647 : Int32)) (100 : Int32)) + (1 : Int32))).toInt64))), .second, .val (.int (1 : Int32)), .unset, .unset] [])) _
        refine XS.lload X1.here hx rfl (hb hby at_90) rfl ?_
        show Steps p.tables e below (T1.setTop (mkF m 92 #[.val (.int p0), .val (.long q1), .second, .val (.int ((own_irem (p0 &&& (2147483647 : Int32)) (100 : Int32)) + (1 : Int32))), .val (.long (q1 &&& (9223372036854775807 : Int64))), .second, .val (.long (own_f1 ((own_irem (p0 &&& (2147483647 : Int32)) (100 : Int32)) + (1 : Int32)) (q1 &&& (9223372036854775807 : Int64)))), .second, .val (.int ((100 : Int32) - ((own_irem (p0 &&& (2147483647 : Int32)) (100 : Int32)) + (1 : Int32)))), .val (.long ((q1 &&& (9223372036854775807 : Int64)) * (((100 : Int32) - ((own_irem (p0 &&& (2147483647 : Int32)) (100 : Int32)) + (1 : Int32))).toInt64))), .second, .val (.int (1 : Int32)), .unset, .unset] [(.long (own_f1 ((own_irem (p0 &&& (2147483647 : Int32)) (100 : Int32)) + (1 : Int32)) (q1 &&& (9223372036854775807 : Int64))))])) _
        refine X1.ldc2Long hx hown (mvT hZ (hw _ (List.mem_of_getElem? (i := 1) rfl))) (g := (mkF m 92 #[.val (.int p0), .val (.long q1), .second, .val (.int ((own_irem (p0 &&& (2147483647 : Int32)) (100 : Int32)) + (1 : Int32))), .val (.long (q1 &&& (9223372036854775807 : Int64))), .second, .val (.long (own_f1 ((own_irem (p0 &&& (2147483647 : Int32)) (100 : Int32)) + (1 : Int32)) (q1 &&& (9223372036854775807 : Int64)))), .second, .val (.int ((100 : Int32) - ((own_irem (p0 &&& (2147483647 : Int32)) (100 : Int32)) + (1 : Int32)))), .val (.long ((q1 &&& (9223372036854775807 : Int64)) * (((100 : Int32) - ((own_irem (p0 &&& (2147483647 : Int32)) (100 : Int32)) + (1 : Int32))).toInt64))), .second, .val (.int (1 : Int32)), .unset, .unset] [(.long (own_f1 ((own_irem (p0 &&& (2147483647 : Int32)) (100 : Int32)) + (1 : Int32)) (q1 &&& (9223372036854775807 : Int64))))])) rfl (hb hby at_92) _ ?_
        show Steps p.tables e below (T1.setTop (mkF m 95 #[.val (.int p0), .val (.long q1), .second, .val (.int ((own_irem (p0 &&& (2147483647 : Int32)) (100 : Int32)) + (1 : Int32))), .val (.long (q1 &&& (9223372036854775807 : Int64))), .second, .val (.long (own_f1 ((own_irem (p0 &&& (2147483647 : Int32)) (100 : Int32)) + (1 : Int32)) (q1 &&& (9223372036854775807 : Int64)))), .second, .val (.int ((100 : Int32) - ((own_irem (p0 &&& (2147483647 : Int32)) (100 : Int32)) + (1 : Int32)))), .val (.long ((q1 &&& (9223372036854775807 : Int64)) * (((100 : Int32) - ((own_irem (p0 &&& (2147483647 : Int32)) (100 : Int32)) + (1 : Int32))).toInt64))), .second, .val (.int (1 : Int32)), .unset, .unset] [(.long (9223372036854775807 : Int64)), (.long (own_f1 ((own_irem (p0 &&& (2147483647 : Int32)) (100 : Int32)) + (1 : Int32)) (q1 &&& (9223372036854775807 : Int64))))])) _
        refine XS.lcmp X1.here hx rfl (hb hby at_95) rfl ?_
        exact k)
      by_cases hc96_9 : (own_f1 ((own_irem (p0 &&& (2147483647 : Int32)) (100 : Int32)) + (1 : Int32)) (q1 &&& (9223372036854775807 : Int64))) = (9223372036854775807 : Int64)
      · obtain ⟨fs, hr, hrun, hended, hW, hsame⟩ := X1.leave (v := some (.int (1 : Int32))) (fun h => by rw [Bd.returns] at h; cases h)
        refine ⟨_, _, pre8 _ ?_, hrun, hended, _, _, rfl, ?_, ⟨_, rfl⟩, hW, hsame.mono (by decide) (by decide)⟩
        · show Steps p.tables e below (T1.setTop (mkF m 96 #[.val (.int p0), .val (.long q1), .second, .val (.int ((own_irem (p0 &&& (2147483647 : Int32)) (100 : Int32)) + (1 : Int32))), .val (.long (q1 &&& (9223372036854775807 : Int64))), .second, .val (.long (own_f1 ((own_irem (p0 &&& (2147483647 : Int32)) (100 : Int32)) + (1 : Int32)) (q1 &&& (9223372036854775807 : Int64)))), .second, .val (.int ((100 : Int32) - ((own_irem (p0 &&& (2147483647 : Int32)) (100 : Int32)) + (1 : Int32)))), .val (.long ((q1 &&& (9223372036854775807 : Int64)) * (((100 : Int32) - ((own_irem (p0 &&& (2147483647 : Int32)) (100 : Int32)) + (1 : Int32))).toInt64))), .second, .val (.int (1 : Int32)), .unset, .unset] [(.int (lcmpW (own_f1 ((own_irem (p0 &&& (2147483647 : Int32)) (100 : Int32)) + (1 : Int32)) (q1 &&& (9223372036854775807 : Int64))) (9223372036854775807 : Int64)))])) _
          refine XS.ifNo X1.here hx rfl (hb hby at_96) rfl ((if0 _ _).trans (teq ((lw_eq _ _).mpr hc96_9)).2) ?_
          show Steps p.tables e below (T1.setTop (mkF m 99 #[.val (.int p0), .val (.long q1), .second, .val (.int ((own_irem (p0 &&& (2147483647 : Int32)) (100 : Int32)) + (1 : Int32))), .val (.long (q1 &&& (9223372036854775807 : Int64))), .second, .val (.long (own_f1 ((own_irem (p0 &&& (2147483647 : Int32)) (100 : Int32)) + (1 : Int32)) (q1 &&& (9223372036854775807 : Int64)))), .second, .val (.int ((100 : Int32) - ((own_irem (p0 &&& (2147483647 : Int32)) (100 : Int32)) + (1 : Int32)))), .val (.long ((q1 &&& (9223372036854775807 : Int64)) * (((100 : Int32) - ((own_irem (p0 &&& (2147483647 : Int32)) (100 : Int32)) + (1 : Int32))).toInt64))), .second, .val (.int (1 : Int32)), .unset, .unset] [])) _
          refine XS.iconst X1.here hx rfl (hb hby at_99) ?_
          show Steps p.tables e below (T1.setTop (mkF m 100 #[.val (.int p0), .val (.long q1), .second, .val (.int ((own_irem (p0 &&& (2147483647 : Int32)) (100 : Int32)) + (1 : Int32))), .val (.long (q1 &&& (9223372036854775807 : Int64))), .second, .val (.long (own_f1 ((own_irem (p0 &&& (2147483647 : Int32)) (100 : Int32)) + (1 : Int32)) (q1 &&& (9223372036854775807 : Int64)))), .second, .val (.int ((100 : Int32) - ((own_irem (p0 &&& (2147483647 : Int32)) (100 : Int32)) + (1 : Int32)))), .val (.long ((q1 &&& (9223372036854775807 : Int64)) * (((100 : Int32) - ((own_irem (p0 &&& (2147483647 : Int32)) (100 : Int32)) + (1 : Int32))).toInt64))), .second, .val (.int (1 : Int32)), .unset, .unset] [(.int (1 : Int32))])) _
          refine XS.goto X1.here hx rfl (pc0 := 100) (pc' := 104) rfl (hb hby at_100) (by decide) (by decide) ?_
          show Steps p.tables e below (T1.setTop (mkF m 104 #[.val (.int p0), .val (.long q1), .second, .val (.int ((own_irem (p0 &&& (2147483647 : Int32)) (100 : Int32)) + (1 : Int32))), .val (.long (q1 &&& (9223372036854775807 : Int64))), .second, .val (.long (own_f1 ((own_irem (p0 &&& (2147483647 : Int32)) (100 : Int32)) + (1 : Int32)) (q1 &&& (9223372036854775807 : Int64)))), .second, .val (.int ((100 : Int32) - ((own_irem (p0 &&& (2147483647 : Int32)) (100 : Int32)) + (1 : Int32)))), .val (.long ((q1 &&& (9223372036854775807 : Int64)) * (((100 : Int32) - ((own_irem (p0 &&& (2147483647 : Int32)) (100 : Int32)) + (1 : Int32))).toInt64))), .second, .val (.int (1 : Int32)), .unset, .unset] [(.int (1 : Int32))])) _
          exact retN X1 hx (t := .boolean) Bd.returns (by simp) (hb hby at_104) hr
        · show rm0Q Z p0 q1 h0 n0 _ T1.heap _
          rw [e1q]
          have hres : own_f0 p0 q1 = (1 : Int32) := by
            simp only [own_f0, if_neg hc33_3, if_pos hc63_7, if_pos hc96_9]
          exact ⟨by rw [hres], N1, rfl⟩
      · obtain ⟨fs, hr, hrun, hended, hW, hsame⟩ := X1.leave (v := some (.int (0 : Int32))) (fun h => by rw [Bd.returns] at h; cases h)
        refine ⟨_, _, pre8 _ ?_, hrun, hended, _, _, rfl, ?_, ⟨_, rfl⟩, hW, hsame.mono (by decide) (by decide)⟩
        · show Steps p.tables e below (T1.setTop (mkF m 96 #[.val (.int p0), .val (.long q1), .second, .val (.int ((own_irem (p0 &&& (2147483647 : Int32)) (100 : Int32)) + (1 : Int32))), .val (.long (q1 &&& (9223372036854775807 : Int64))), .second, .val (.long (own_f1 ((own_irem (p0 &&& (2147483647 : Int32)) (100 : Int32)) + (1 : Int32)) (q1 &&& (9223372036854775807 : Int64)))), .second, .val (.int ((100 : Int32) - ((own_irem (p0 &&& (2147483647 : Int32)) (100 : Int32)) + (1 : Int32)))), .val (.long ((q1 &&& (9223372036854775807 : Int64)) * (((100 : Int32) - ((own_irem (p0 &&& (2147483647 : Int32)) (100 : Int32)) + (1 : Int32))).toInt64))), .second, .val (.int (1 : Int32)), .unset, .unset] [(.int (lcmpW (own_f1 ((own_irem (p0 &&& (2147483647 : Int32)) (100 : Int32)) + (1 : Int32)) (q1 &&& (9223372036854775807 : Int64))) (9223372036854775807 : Int64)))])) _
          refine XS.ifYes X1.here hx rfl (pc0 := 96) (pc' := 103) rfl (hb hby at_96) rfl ((if0 _ _).trans (feq (fun q => hc96_9 ((lw_eq _ _).mp q))).2) (by decide) (by decide) ?_
          show Steps p.tables e below (T1.setTop (mkF m 103 #[.val (.int p0), .val (.long q1), .second, .val (.int ((own_irem (p0 &&& (2147483647 : Int32)) (100 : Int32)) + (1 : Int32))), .val (.long (q1 &&& (9223372036854775807 : Int64))), .second, .val (.long (own_f1 ((own_irem (p0 &&& (2147483647 : Int32)) (100 : Int32)) + (1 : Int32)) (q1 &&& (9223372036854775807 : Int64)))), .second, .val (.int ((100 : Int32) - ((own_irem (p0 &&& (2147483647 : Int32)) (100 : Int32)) + (1 : Int32)))), .val (.long ((q1 &&& (9223372036854775807 : Int64)) * (((100 : Int32) - ((own_irem (p0 &&& (2147483647 : Int32)) (100 : Int32)) + (1 : Int32))).toInt64))), .second, .val (.int (1 : Int32)), .unset, .unset] [])) _
          refine XS.iconst X1.here hx rfl (hb hby at_103) ?_
          show Steps p.tables e below (T1.setTop (mkF m 104 #[.val (.int p0), .val (.long q1), .second, .val (.int ((own_irem (p0 &&& (2147483647 : Int32)) (100 : Int32)) + (1 : Int32))), .val (.long (q1 &&& (9223372036854775807 : Int64))), .second, .val (.long (own_f1 ((own_irem (p0 &&& (2147483647 : Int32)) (100 : Int32)) + (1 : Int32)) (q1 &&& (9223372036854775807 : Int64)))), .second, .val (.int ((100 : Int32) - ((own_irem (p0 &&& (2147483647 : Int32)) (100 : Int32)) + (1 : Int32)))), .val (.long ((q1 &&& (9223372036854775807 : Int64)) * (((100 : Int32) - ((own_irem (p0 &&& (2147483647 : Int32)) (100 : Int32)) + (1 : Int32))).toInt64))), .second, .val (.int (1 : Int32)), .unset, .unset] [(.int (0 : Int32))])) _
          exact retN X1 hx (t := .boolean) Bd.returns (by simp) (hb hby at_104) hr
        · show rm0Q Z p0 q1 h0 n0 _ T1.heap _
          rw [e1q]
          have hres : own_f0 p0 q1 = (0 : Int32) := by
            simp only [own_f0, if_neg hc33_3, if_pos hc63_7, if_neg hc96_9]
          exact ⟨by rw [hres], N1, rfl⟩
    · have pre10 : ∀ t, Steps p.tables e below (T1.setTop (mkF m 75 #[.val (.int p0), .val (.long q1), .second, .val (.int ((own_irem (p0 &&& (2147483647 : Int32)) (100 : Int32)) + (1 : Int32))), .val (.long (q1 &&& (9223372036854775807 : Int64))), .second, .val (.long (own_f1 ((own_irem (p0 &&& (2147483647 : Int32)) (100 : Int32)) + (1 : Int32)) (q1 &&& (9223372036854775807 : Int64)))), .second, .val (.int ((100 : Int32) - ((own_irem (p0 &&& (2147483647 : Int32)) (100 : Int32)) + (1 : Int32)))), .val (.long ((q1 &&& (9223372036854775807 : Int64)) * (((100 : Int32) - ((own_irem (p0 &&& (2147483647 : Int32)) (100 : Int32)) + (1 : Int32))).toInt64))), .second, .unset, .unset, .unset] [(.int (lcmpW (((q1 &&& (9223372036854775807 : Int64)) * (((100 : Int32) - ((own_irem (p0 &&& (2147483647 : Int32)) (100 : Int32)) + (1 : Int32))).toInt64)) / (((100 : Int32) - ((own_irem (p0 &&& (2147483647 : Int32)) (100 : Int32)) + (1 : Int32))).toInt64)) (q1 &&& (9223372036854775807 : Int64))))])) t → Steps p.tables e below (s₁.setTop (entryFrame m #[(.int p0), (.long q1)] maxLocals)) t := fun t k => pre6 t (by
        show Steps p.tables e below (T1.setTop (mkF m 63 #[.val (.int p0), .val (.long q1), .second, .val (.int ((own_irem (p0 &&& (2147483647 : Int32)) (100 : Int32)) + (1 : Int32))), .val (.long (q1 &&& (9223372036854775807 : Int64))), .second, .val (.long (own_f1 ((own_irem (p0 &&& (2147483647 : Int32)) (100 : Int32)) + (1 : Int32)) (q1 &&& (9223372036854775807 : Int64)))), .second, .val (.int ((100 : Int32) - ((own_irem (p0 &&& (2147483647 : Int32)) (100 : Int32)) + (1 : Int32)))), .val (.long ((q1 &&& (9223372036854775807 : Int64)) * (((100 : Int32) - ((own_irem (p0 &&& (2147483647 : Int32)) (100 : Int32)) + (1 : Int32))).toInt64))), .second, .unset, .unset, .unset] [(.int (lcmpW ((q1 &&& (9223372036854775807 : Int64)) * (((100 : Int32) - ((own_irem (p0 &&& (2147483647 : Int32)) (100 : Int32)) + (1 : Int32))).toInt64)) (0 : Int64)))])) _
        refine XS.ifNo X1.here hx rfl (hb hby at_63) rfl ((if0 _ _).trans (flt (fun q => hc63_7 ((lw_lt _ _).mp q))).1) ?_
        show Steps p.tables e below (T1.setTop (mkF m 66 #[.val (.int p0), .val (.long q1), .second, .val (.int ((own_irem (p0 &&& (2147483647 : Int32)) (100 : Int32)) + (1 : Int32))), .val (.long (q1 &&& (9223372036854775807 : Int64))), .second, .val (.long (own_f1 ((own_irem (p0 &&& (2147483647 : Int32)) (100 : Int32)) + (1 : Int32)) (q1 &&& (9223372036854775807 : Int64)))), .second, .val (.int ((100 : Int32) - ((own_irem (p0 &&& (2147483647 : Int32)) (100 : Int32)) + (1 : Int32)))), .val (.long ((q1 &&& (9223372036854775807 : Int64)) * (((100 : Int32) - ((own_irem (p0 &&& (2147483647 : Int32)) (100 : Int32)) + (1 : Int32))).toInt64))), .second, .unset, .unset, .unset] [])) _
        refine XS.lload X1.here hx rfl (hb hby at_66) rfl ?_
        show Steps p.tables e below (T1.setTop (mkF m 68 #[.val (.int p0), .val (.long q1), .second, .val (.int ((own_irem (p0 &&& (2147483647 : Int32)) (100 : Int32)) + (1 : Int32))), .val (.long (q1 &&& (9223372036854775807 : Int64))), .second, .val (.long (own_f1 ((own_irem (p0 &&& (2147483647 : Int32)) (100 : Int32)) + (1 : Int32)) (q1 &&& (9223372036854775807 : Int64)))), .second, .val (.int ((100 : Int32) - ((own_irem (p0 &&& (2147483647 : Int32)) (100 : Int32)) + (1 : Int32)))), .val (.long ((q1 &&& (9223372036854775807 : Int64)) * (((100 : Int32) - ((own_irem (p0 &&& (2147483647 : Int32)) (100 : Int32)) + (1 : Int32))).toInt64))), .second, .unset, .unset, .unset] [(.long ((q1 &&& (9223372036854775807 : Int64)) * (((100 : Int32) - ((own_irem (p0 &&& (2147483647 : Int32)) (100 : Int32)) + (1 : Int32))).toInt64)))])) _
        refine XS.iload X1.here hx rfl (hb hby at_68) rfl ?_
        show Steps p.tables e below (T1.setTop (mkF m 70 #[.val (.int p0), .val (.long q1), .second, .val (.int ((own_irem (p0 &&& (2147483647 : Int32)) (100 : Int32)) + (1 : Int32))), .val (.long (q1 &&& (9223372036854775807 : Int64))), .second, .val (.long (own_f1 ((own_irem (p0 &&& (2147483647 : Int32)) (100 : Int32)) + (1 : Int32)) (q1 &&& (9223372036854775807 : Int64)))), .second, .val (.int ((100 : Int32) - ((own_irem (p0 &&& (2147483647 : Int32)) (100 : Int32)) + (1 : Int32)))), .val (.long ((q1 &&& (9223372036854775807 : Int64)) * (((100 : Int32) - ((own_irem (p0 &&& (2147483647 : Int32)) (100 : Int32)) + (1 : Int32))).toInt64))), .second, .unset, .unset, .unset] [(.int ((100 : Int32) - ((own_irem (p0 &&& (2147483647 : Int32)) (100 : Int32)) + (1 : Int32)))), (.long ((q1 &&& (9223372036854775807 : Int64)) * (((100 : Int32) - ((own_irem (p0 &&& (2147483647 : Int32)) (100 : Int32)) + (1 : Int32))).toInt64)))])) _
        refine XS.i2l X1.here hx rfl (hb hby at_70) rfl ?_
        show Steps p.tables e below (T1.setTop (mkF m 71 #[.val (.int p0), .val (.long q1), .second, .val (.int ((own_irem (p0 &&& (2147483647 : Int32)) (100 : Int32)) + (1 : Int32))), .val (.long (q1 &&& (9223372036854775807 : Int64))), .second, .val (.long (own_f1 ((own_irem (p0 &&& (2147483647 : Int32)) (100 : Int32)) + (1 : Int32)) (q1 &&& (9223372036854775807 : Int64)))), .second, .val (.int ((100 : Int32) - ((own_irem (p0 &&& (2147483647 : Int32)) (100 : Int32)) + (1 : Int32)))), .val (.long ((q1 &&& (9223372036854775807 : Int64)) * (((100 : Int32) - ((own_irem (p0 &&& (2147483647 : Int32)) (100 : Int32)) + (1 : Int32))).toInt64))), .second, .unset, .unset, .unset] [(.long (((100 : Int32) - ((own_irem (p0 &&& (2147483647 : Int32)) (100 : Int32)) + (1 : Int32))).toInt64)), (.long ((q1 &&& (9223372036854775807 : Int64)) * (((100 : Int32) - ((own_irem (p0 &&& (2147483647 : Int32)) (100 : Int32)) + (1 : Int32))).toInt64)))])) _
        refine XS.ldiv X1.here hx rfl (hb hby at_71) rfl (own_nz hc33_3) ?_
        show Steps p.tables e below (T1.setTop (mkF m 72 #[.val (.int p0), .val (.long q1), .second, .val (.int ((own_irem (p0 &&& (2147483647 : Int32)) (100 : Int32)) + (1 : Int32))), .val (.long (q1 &&& (9223372036854775807 : Int64))), .second, .val (.long (own_f1 ((own_irem (p0 &&& (2147483647 : Int32)) (100 : Int32)) + (1 : Int32)) (q1 &&& (9223372036854775807 : Int64)))), .second, .val (.int ((100 : Int32) - ((own_irem (p0 &&& (2147483647 : Int32)) (100 : Int32)) + (1 : Int32)))), .val (.long ((q1 &&& (9223372036854775807 : Int64)) * (((100 : Int32) - ((own_irem (p0 &&& (2147483647 : Int32)) (100 : Int32)) + (1 : Int32))).toInt64))), .second, .unset, .unset, .unset] [(.long (((q1 &&& (9223372036854775807 : Int64)) * (((100 : Int32) - ((own_irem (p0 &&& (2147483647 : Int32)) (100 : Int32)) + (1 : Int32))).toInt64)) / (((100 : Int32) - ((own_irem (p0 &&& (2147483647 : Int32)) (100 : Int32)) + (1 : Int32))).toInt64)))])) _
        refine XS.lload X1.here hx rfl (hb hby at_72) rfl ?_
        show Steps p.tables e below (T1.setTop (mkF m 74 #[.val (.int p0), .val (.long q1), .second, .val (.int ((own_irem (p0 &&& (2147483647 : Int32)) (100 : Int32)) + (1 : Int32))), .val (.long (q1 &&& (9223372036854775807 : Int64))), .second, .val (.long (own_f1 ((own_irem (p0 &&& (2147483647 : Int32)) (100 : Int32)) + (1 : Int32)) (q1 &&& (9223372036854775807 : Int64)))), .second, .val (.int ((100 : Int32) - ((own_irem (p0 &&& (2147483647 : Int32)) (100 : Int32)) + (1 : Int32)))), .val (.long ((q1 &&& (9223372036854775807 : Int64)) * (((100 : Int32) - ((own_irem (p0 &&& (2147483647 : Int32)) (100 : Int32)) + (1 : Int32))).toInt64))), .second, .unset, .unset, .unset] [(.long (q1 &&& (9223372036854775807 : Int64))), (.long (((q1 &&& (9223372036854775807 : Int64)) * (((100 : Int32) - ((own_irem (p0 &&& (2147483647 : Int32)) (100 : Int32)) + (1 : Int32))).toInt64)) / (((100 : Int32) - ((own_irem (p0 &&& (2147483647 : Int32)) (100 : Int32)) + (1 : Int32))).toInt64)))])) _
        refine XS.lcmp X1.here hx rfl (hb hby at_74) rfl ?_
        exact k)
      by_cases hc75_11 : (((q1 &&& (9223372036854775807 : Int64)) * (((100 : Int32) - ((own_irem (p0 &&& (2147483647 : Int32)) (100 : Int32)) + (1 : Int32))).toInt64)) / (((100 : Int32) - ((own_irem (p0 &&& (2147483647 : Int32)) (100 : Int32)) + (1 : Int32))).toInt64)) = (q1 &&& (9223372036854775807 : Int64))
      · have pre12 : ∀ t, Steps p.tables e below (T1.setTop (mkF m 109 #[.val (.int p0), .val (.long q1), .second, .val (.int ((own_irem (p0 &&& (2147483647 : Int32)) (100 : Int32)) + (1 : Int32))), .val (.long (q1 &&& (9223372036854775807 : Int64))), .second, .val (.long (own_f1 ((own_irem (p0 &&& (2147483647 : Int32)) (100 : Int32)) + (1 : Int32)) (q1 &&& (9223372036854775807 : Int64)))), .second, .val (.int ((100 : Int32) - ((own_irem (p0 &&& (2147483647 : Int32)) (100 : Int32)) + (1 : Int32)))), .val (.long ((q1 &&& (9223372036854775807 : Int64)) * (((100 : Int32) - ((own_irem (p0 &&& (2147483647 : Int32)) (100 : Int32)) + (1 : Int32))).toInt64))), .second, .val (.int (0 : Int32)), .unset, .unset] [(.int (lcmpW (own_f1 ((own_irem (p0 &&& (2147483647 : Int32)) (100 : Int32)) + (1 : Int32)) (q1 &&& (9223372036854775807 : Int64))) (0 : Int64)))])) t → Steps p.tables e below (s₁.setTop (entryFrame m #[(.int p0), (.long q1)] maxLocals)) t := fun t k => pre10 t (by
          show Steps p.tables e below (T1.setTop (mkF m 75 #[.val (.int p0), .val (.long q1), .second, .val (.int ((own_irem (p0 &&& (2147483647 : Int32)) (100 : Int32)) + (1 : Int32))), .val (.long (q1 &&& (9223372036854775807 : Int64))), .second, .val (.long (own_f1 ((own_irem (p0 &&& (2147483647 : Int32)) (100 : Int32)) + (1 : Int32)) (q1 &&& (9223372036854775807 : Int64)))), .second, .val (.int ((100 : Int32) - ((own_irem (p0 &&& (2147483647 : Int32)) (100 : Int32)) + (1 : Int32)))), .val (.long ((q1 &&& (9223372036854775807 : Int64)) * (((100 : Int32) - ((own_irem (p0 &&& (2147483647 : Int32)) (100 : Int32)) + (1 : Int32))).toInt64))), .second, .unset, .unset, .unset] [(.int (lcmpW (((q1 &&& (9223372036854775807 : Int64)) * (((100 : Int32) - ((own_irem (p0 &&& (2147483647 : Int32)) (100 : Int32)) + (1 : Int32))).toInt64)) / (((100 : Int32) - ((own_irem (p0 &&& (2147483647 : Int32)) (100 : Int32)) + (1 : Int32))).toInt64)) (q1 &&& (9223372036854775807 : Int64))))])) _
          refine XS.ifYes X1.here hx rfl (pc0 := 75) (pc' := 82) rfl (hb hby at_75) rfl ((if0 _ _).trans (teq ((lw_eq _ _).mpr hc75_11)).1) (by decide) (by decide) ?_
          show Steps p.tables e below (T1.setTop (mkF m 82 #[.val (.int p0), .val (.long q1), .second, .val (.int ((own_irem (p0 &&& (2147483647 : Int32)) (100 : Int32)) + (1 : Int32))), .val (.long (q1 &&& (9223372036854775807 : Int64))), .second, .val (.long (own_f1 ((own_irem (p0 &&& (2147483647 : Int32)) (100 : Int32)) + (1 : Int32)) (q1 &&& (9223372036854775807 : Int64)))), .second, .val (.int ((100 : Int32) - ((own_irem (p0 &&& (2147483647 : Int32)) (100 : Int32)) + (1 : Int32)))), .val (.long ((q1 &&& (9223372036854775807 : Int64)) * (((100 : Int32) - ((own_irem (p0 &&& (2147483647 : Int32)) (100 : Int32)) + (1 : Int32))).toInt64))), .second, .unset, .unset, .unset] [])) _
          refine XS.iconst X1.here hx rfl (hb hby at_82) ?_
          show Steps p.tables e below (T1.setTop (mkF m 83 #[.val (.int p0), .val (.long q1), .second, .val (.int ((own_irem (p0 &&& (2147483647 : Int32)) (100 : Int32)) + (1 : Int32))), .val (.long (q1 &&& (9223372036854775807 : Int64))), .second, .val (.long (own_f1 ((own_irem (p0 &&& (2147483647 : Int32)) (100 : Int32)) + (1 : Int32)) (q1 &&& (9223372036854775807 : Int64)))), .second, .val (.int ((100 : Int32) - ((own_irem (p0 &&& (2147483647 : Int32)) (100 : Int32)) + (1 : Int32)))), .val (.long ((q1 &&& (9223372036854775807 : Int64)) * (((100 : Int32) - ((own_irem (p0 &&& (2147483647 : Int32)) (100 : Int32)) + (1 : Int32))).toInt64))), .second, .unset, .unset, .unset] [(.int (0 : Int32))])) _
          refine XS.istore X1.here hx rfl (hb hby at_83) rfl (l' := #[.val (.int p0), .val (.long q1), .second, .val (.int ((own_irem (p0 &&& (2147483647 : Int32)) (100 : Int32)) + (1 : Int32))), .val (.long (q1 &&& (9223372036854775807 : Int64))), .second, .val (.long (own_f1 ((own_irem (p0 &&& (2147483647 : Int32)) (100 : Int32)) + (1 : Int32)) (q1 &&& (9223372036854775807 : Int64)))), .second, .val (.int ((100 : Int32) - ((own_irem (p0 &&& (2147483647 : Int32)) (100 : Int32)) + (1 : Int32)))), .val (.long ((q1 &&& (9223372036854775807 : Int64)) * (((100 : Int32) - ((own_irem (p0 &&& (2147483647 : Int32)) (100 : Int32)) + (1 : Int32))).toInt64))), .second, .val (.int (0 : Int32)), .unset, .unset]) rfl ?_
          show Steps p.tables e below (T1.setTop (mkF m 85 #[.val (.int p0), .val (.long q1), .second, .val (.int ((own_irem (p0 &&& (2147483647 : Int32)) (100 : Int32)) + (1 : Int32))), .val (.long (q1 &&& (9223372036854775807 : Int64))), .second, .val (.long (own_f1 ((own_irem (p0 &&& (2147483647 : Int32)) (100 : Int32)) + (1 : Int32)) (q1 &&& (9223372036854775807 : Int64)))), .second, .val (.int ((100 : Int32) - ((own_irem (p0 &&& (2147483647 : Int32)) (100 : Int32)) + (1 : Int32)))), .val (.long ((q1 &&& (9223372036854775807 : Int64)) * (((100 : Int32) - ((own_irem (p0 &&& (2147483647 : Int32)) (100 : Int32)) + (1 : Int32))).toInt64))), .second, .val (.int (0 : Int32)), .unset, .unset] [])) _
          refine XS.iload X1.here hx rfl (hb hby at_85) rfl ?_
          show Steps p.tables e below (T1.setTop (mkF m 87 #[.val (.int p0), .val (.long q1), .second, .val (.int ((own_irem (p0 &&& (2147483647 : Int32)) (100 : Int32)) + (1 : Int32))), .val (.long (q1 &&& (9223372036854775807 : Int64))), .second, .val (.long (own_f1 ((own_irem (p0 &&& (2147483647 : Int32)) (100 : Int32)) + (1 : Int32)) (q1 &&& (9223372036854775807 : Int64)))), .second, .val (.int ((100 : Int32) - ((own_irem (p0 &&& (2147483647 : Int32)) (100 : Int32)) + (1 : Int32)))), .val (.long ((q1 &&& (9223372036854775807 : Int64)) * (((100 : Int32) - ((own_irem (p0 &&& (2147483647 : Int32)) (100 : Int32)) + (1 : Int32))).toInt64))), .second, .val (.int (0 : Int32)), .unset, .unset] [(.int (0 : Int32))])) _
          refine XS.ifYes X1.here hx rfl (pc0 := 87) (pc' := 105) rfl (hb hby at_87) rfl ((if0 _ _).trans (teq (rfl : (0 : Int32) = (0 : Int32))).1) (by decide) (by decide) ?_
          show Steps p.tables e below (T1.setTop (mkF m 105 #[.val (.int p0), .val (.long q1), .second, .val (.int ((own_irem (p0 &&& (2147483647 : Int32)) (100 : Int32)) + (1 : Int32))), .val (.long (q1 &&& (9223372036854775807 : Int64))), .second, .val (.long (own_f1 ((own_irem (p0 &&& (2147483647 : Int32)) (100 : Int32)) + (1 : Int32)) (q1 &&& (9223372036854775807 : Int64)))), .second, .val (.int ((100 : Int32) - ((own_irem (p0 &&& (2147483647 : Int32)) (100 : Int32)) + (1 : Int32)))), .val (.long ((q1 &&& (9223372036854775807 : Int64)) * (((100 : Int32) - ((own_irem (p0 &&& (2147483647 : Int32)) (100 : Int32)) + (1 : Int32))).toInt64))), .second, .val (.int (0 : Int32)), .unset, .unset] [])) _
          refine XS.lload X1.here hx rfl (hb hby at_105) rfl ?_
          show Steps p.tables e below (T1.setTop (mkF m 107 #[.val (.int p0), .val (.long q1), .second, .val (.int ((own_irem (p0 &&& (2147483647 : Int32)) (100 : Int32)) + (1 : Int32))), .val (.long (q1 &&& (9223372036854775807 : Int64))), .second, .val (.long (own_f1 ((own_irem (p0 &&& (2147483647 : Int32)) (100 : Int32)) + (1 : Int32)) (q1 &&& (9223372036854775807 : Int64)))), .second, .val (.int ((100 : Int32) - ((own_irem (p0 &&& (2147483647 : Int32)) (100 : Int32)) + (1 : Int32)))), .val (.long ((q1 &&& (9223372036854775807 : Int64)) * (((100 : Int32) - ((own_irem (p0 &&& (2147483647 : Int32)) (100 : Int32)) + (1 : Int32))).toInt64))), .second, .val (.int (0 : Int32)), .unset, .unset] [(.long (own_f1 ((own_irem (p0 &&& (2147483647 : Int32)) (100 : Int32)) + (1 : Int32)) (q1 &&& (9223372036854775807 : Int64))))])) _
          refine XS.lconst X1.here hx rfl (hb hby at_107) ?_
          show Steps p.tables e below (T1.setTop (mkF m 108 #[.val (.int p0), .val (.long q1), .second, .val (.int ((own_irem (p0 &&& (2147483647 : Int32)) (100 : Int32)) + (1 : Int32))), .val (.long (q1 &&& (9223372036854775807 : Int64))), .second, .val (.long (own_f1 ((own_irem (p0 &&& (2147483647 : Int32)) (100 : Int32)) + (1 : Int32)) (q1 &&& (9223372036854775807 : Int64)))), .second, .val (.int ((100 : Int32) - ((own_irem (p0 &&& (2147483647 : Int32)) (100 : Int32)) + (1 : Int32)))), .val (.long ((q1 &&& (9223372036854775807 : Int64)) * (((100 : Int32) - ((own_irem (p0 &&& (2147483647 : Int32)) (100 : Int32)) + (1 : Int32))).toInt64))), .second, .val (.int (0 : Int32)), .unset, .unset] [(.long (0 : Int64)), (.long (own_f1 ((own_irem (p0 &&& (2147483647 : Int32)) (100 : Int32)) + (1 : Int32)) (q1 &&& (9223372036854775807 : Int64))))])) _
          refine XS.lcmp X1.here hx rfl (hb hby at_108) rfl ?_
          exact k)
        by_cases hc109_13 : (own_f1 ((own_irem (p0 &&& (2147483647 : Int32)) (100 : Int32)) + (1 : Int32)) (q1 &&& (9223372036854775807 : Int64))) < (0 : Int64)
        · obtain ⟨fs, hr, hrun, hended, hW, hsame⟩ := X1.leave (v := some (.int (0 : Int32))) (fun h => by rw [Bd.returns] at h; cases h)
          refine ⟨_, _, pre12 _ ?_, hrun, hended, _, _, rfl, ?_, ⟨_, rfl⟩, hW, hsame.mono (by decide) (by decide)⟩
          · show Steps p.tables e below (T1.setTop (mkF m 109 #[.val (.int p0), .val (.long q1), .second, .val (.int ((own_irem (p0 &&& (2147483647 : Int32)) (100 : Int32)) + (1 : Int32))), .val (.long (q1 &&& (9223372036854775807 : Int64))), .second, .val (.long (own_f1 ((own_irem (p0 &&& (2147483647 : Int32)) (100 : Int32)) + (1 : Int32)) (q1 &&& (9223372036854775807 : Int64)))), .second, .val (.int ((100 : Int32) - ((own_irem (p0 &&& (2147483647 : Int32)) (100 : Int32)) + (1 : Int32)))), .val (.long ((q1 &&& (9223372036854775807 : Int64)) * (((100 : Int32) - ((own_irem (p0 &&& (2147483647 : Int32)) (100 : Int32)) + (1 : Int32))).toInt64))), .second, .val (.int (0 : Int32)), .unset, .unset] [(.int (lcmpW (own_f1 ((own_irem (p0 &&& (2147483647 : Int32)) (100 : Int32)) + (1 : Int32)) (q1 &&& (9223372036854775807 : Int64))) (0 : Int64)))])) _
            refine XS.ifYes X1.here hx rfl (pc0 := 109) (pc' := 124) rfl (hb hby at_109) rfl ((if0 _ _).trans (tlt ((lw_lt _ _).mpr hc109_13)).1) (by decide) (by decide) ?_
            show Steps p.tables e below (T1.setTop (mkF m 124 #[.val (.int p0), .val (.long q1), .second, .val (.int ((own_irem (p0 &&& (2147483647 : Int32)) (100 : Int32)) + (1 : Int32))), .val (.long (q1 &&& (9223372036854775807 : Int64))), .second, .val (.long (own_f1 ((own_irem (p0 &&& (2147483647 : Int32)) (100 : Int32)) + (1 : Int32)) (q1 &&& (9223372036854775807 : Int64)))), .second, .val (.int ((100 : Int32) - ((own_irem (p0 &&& (2147483647 : Int32)) (100 : Int32)) + (1 : Int32)))), .val (.long ((q1 &&& (9223372036854775807 : Int64)) * (((100 : Int32) - ((own_irem (p0 &&& (2147483647 : Int32)) (100 : Int32)) + (1 : Int32))).toInt64))), .second, .val (.int (0 : Int32)), .unset, .unset] [])) _
            refine XS.iconst X1.here hx rfl (hb hby at_124) ?_
            show Steps p.tables e below (T1.setTop (mkF m 125 #[.val (.int p0), .val (.long q1), .second, .val (.int ((own_irem (p0 &&& (2147483647 : Int32)) (100 : Int32)) + (1 : Int32))), .val (.long (q1 &&& (9223372036854775807 : Int64))), .second, .val (.long (own_f1 ((own_irem (p0 &&& (2147483647 : Int32)) (100 : Int32)) + (1 : Int32)) (q1 &&& (9223372036854775807 : Int64)))), .second, .val (.int ((100 : Int32) - ((own_irem (p0 &&& (2147483647 : Int32)) (100 : Int32)) + (1 : Int32)))), .val (.long ((q1 &&& (9223372036854775807 : Int64)) * (((100 : Int32) - ((own_irem (p0 &&& (2147483647 : Int32)) (100 : Int32)) + (1 : Int32))).toInt64))), .second, .val (.int (0 : Int32)), .unset, .unset] [(.int (0 : Int32))])) _
            exact retN X1 hx (t := .boolean) Bd.returns (by simp) (hb hby at_125) hr
          · show rm0Q Z p0 q1 h0 n0 _ T1.heap _
            rw [e1q]
            have hres : own_f0 p0 q1 = (0 : Int32) := by
              simp only [own_f0, if_neg hc33_3, if_neg hc63_7, if_pos hc75_11, if_pos hc109_13]
            exact ⟨by rw [hres], N1, rfl⟩
        · have pre14 : ∀ t, Steps p.tables e below (T1.setTop (mkF m 121 #[.val (.int p0), .val (.long q1), .second, .val (.int ((own_irem (p0 &&& (2147483647 : Int32)) (100 : Int32)) + (1 : Int32))), .val (.long (q1 &&& (9223372036854775807 : Int64))), .second, .val (.long (own_f1 ((own_irem (p0 &&& (2147483647 : Int32)) (100 : Int32)) + (1 : Int32)) (q1 &&& (9223372036854775807 : Int64)))), .second, .val (.int ((100 : Int32) - ((own_irem (p0 &&& (2147483647 : Int32)) (100 : Int32)) + (1 : Int32)))), .val (.long ((q1 &&& (9223372036854775807 : Int64)) * (((100 : Int32) - ((own_irem (p0 &&& (2147483647 : Int32)) (100 : Int32)) + (1 : Int32))).toInt64))), .second, .val (.int (0 : Int32)), .unset, .unset] [(.int (lcmpW (own_f1 ((own_irem (p0 &&& (2147483647 : Int32)) (100 : Int32)) + (1 : Int32)) (q1 &&& (9223372036854775807 : Int64))) ((9223372036854775807 : Int64) / (((own_irem (p0 &&& (2147483647 : Int32)) (100 : Int32)) + (1 : Int32)).toInt64))))])) t → Steps p.tables e below (s₁.setTop (entryFrame m #[(.int p0), (.long q1)] maxLocals)) t := fun t k => pre12 t (by
            show Steps p.tables e below (T1.setTop (mkF m 109 #[.val (.int p0), .val (.long q1), .second, .val (.int ((own_irem (p0 &&& (2147483647 : Int32)) (100 : Int32)) + (1 : Int32))), .val (.long (q1 &&& (9223372036854775807 : Int64))), .second, .val (.long (own_f1 ((own_irem (p0 &&& (2147483647 : Int32)) (100 : Int32)) + (1 : Int32)) (q1 &&& (9223372036854775807 : Int64)))), .second, .val (.int ((100 : Int32) - ((own_irem (p0 &&& (2147483647 : Int32)) (100 : Int32)) + (1 : Int32)))), .val (.long ((q1 &&& (9223372036854775807 : Int64)) * (((100 : Int32) - ((own_irem (p0 &&& (2147483647 : Int32)) (100 : Int32)) + (1 : Int32))).toInt64))), .second, .val (.int (0 : Int32)), .unset, .unset] [(.int (lcmpW (own_f1 ((own_irem (p0 &&& (2147483647 : Int32)) (100 : Int32)) + (1 : Int32)) (q1 &&& (9223372036854775807 : Int64))) (0 : Int64)))])) _
            refine XS.ifNo X1.here hx rfl (hb hby at_109) rfl ((if0 _ _).trans (flt (fun q => hc109_13 ((lw_lt _ _).mp q))).1) ?_
            show Steps p.tables e below (T1.setTop (mkF m 112 #[.val (.int p0), .val (.long q1), .second, .val (.int ((own_irem (p0 &&& (2147483647 : Int32)) (100 : Int32)) + (1 : Int32))), .val (.long (q1 &&& (9223372036854775807 : Int64))), .second, .val (.long (own_f1 ((own_irem (p0 &&& (2147483647 : Int32)) (100 : Int32)) + (1 : Int32)) (q1 &&& (9223372036854775807 : Int64)))), .second, .val (.int ((100 : Int32) - ((own_irem (p0 &&& (2147483647 : Int32)) (100 : Int32)) + (1 : Int32)))), .val (.long ((q1 &&& (9223372036854775807 : Int64)) * (((100 : Int32) - ((own_irem (p0 &&& (2147483647 : Int32)) (100 : Int32)) + (1 : Int32))).toInt64))), .second, .val (.int (0 : Int32)), .unset, .unset] [])) _
            refine XS.lload X1.here hx rfl (hb hby at_112) rfl ?_
            show Steps p.tables e below (T1.setTop (mkF m 114 #[.val (.int p0), .val (.long q1), .second, .val (.int ((own_irem (p0 &&& (2147483647 : Int32)) (100 : Int32)) + (1 : Int32))), .val (.long (q1 &&& (9223372036854775807 : Int64))), .second, .val (.long (own_f1 ((own_irem (p0 &&& (2147483647 : Int32)) (100 : Int32)) + (1 : Int32)) (q1 &&& (9223372036854775807 : Int64)))), .second, .val (.int ((100 : Int32) - ((own_irem (p0 &&& (2147483647 : Int32)) (100 : Int32)) + (1 : Int32)))), .val (.long ((q1 &&& (9223372036854775807 : Int64)) * (((100 : Int32) - ((own_irem (p0 &&& (2147483647 : Int32)) (100 : Int32)) + (1 : Int32))).toInt64))), .second, .val (.int (0 : Int32)), .unset, .unset] [(.long (own_f1 ((own_irem (p0 &&& (2147483647 : Int32)) (100 : Int32)) + (1 : Int32)) (q1 &&& (9223372036854775807 : Int64))))])) _
            refine X1.ldc2Long hx hown (mvT hZ (hw _ (List.mem_of_getElem? (i := 1) rfl))) (g := (mkF m 114 #[.val (.int p0), .val (.long q1), .second, .val (.int ((own_irem (p0 &&& (2147483647 : Int32)) (100 : Int32)) + (1 : Int32))), .val (.long (q1 &&& (9223372036854775807 : Int64))), .second, .val (.long (own_f1 ((own_irem (p0 &&& (2147483647 : Int32)) (100 : Int32)) + (1 : Int32)) (q1 &&& (9223372036854775807 : Int64)))), .second, .val (.int ((100 : Int32) - ((own_irem (p0 &&& (2147483647 : Int32)) (100 : Int32)) + (1 : Int32)))), .val (.long ((q1 &&& (9223372036854775807 : Int64)) * (((100 : Int32) - ((own_irem (p0 &&& (2147483647 : Int32)) (100 : Int32)) + (1 : Int32))).toInt64))), .second, .val (.int (0 : Int32)), .unset, .unset] [(.long (own_f1 ((own_irem (p0 &&& (2147483647 : Int32)) (100 : Int32)) + (1 : Int32)) (q1 &&& (9223372036854775807 : Int64))))])) rfl (hb hby at_114) _ ?_
            show Steps p.tables e below (T1.setTop (mkF m 117 #[.val (.int p0), .val (.long q1), .second, .val (.int ((own_irem (p0 &&& (2147483647 : Int32)) (100 : Int32)) + (1 : Int32))), .val (.long (q1 &&& (9223372036854775807 : Int64))), .second, .val (.long (own_f1 ((own_irem (p0 &&& (2147483647 : Int32)) (100 : Int32)) + (1 : Int32)) (q1 &&& (9223372036854775807 : Int64)))), .second, .val (.int ((100 : Int32) - ((own_irem (p0 &&& (2147483647 : Int32)) (100 : Int32)) + (1 : Int32)))), .val (.long ((q1 &&& (9223372036854775807 : Int64)) * (((100 : Int32) - ((own_irem (p0 &&& (2147483647 : Int32)) (100 : Int32)) + (1 : Int32))).toInt64))), .second, .val (.int (0 : Int32)), .unset, .unset] [(.long (9223372036854775807 : Int64)), (.long (own_f1 ((own_irem (p0 &&& (2147483647 : Int32)) (100 : Int32)) + (1 : Int32)) (q1 &&& (9223372036854775807 : Int64))))])) _
            refine XS.iloadN X1.here hx rfl (hb hby at_117) rfl ?_
            show Steps p.tables e below (T1.setTop (mkF m 118 #[.val (.int p0), .val (.long q1), .second, .val (.int ((own_irem (p0 &&& (2147483647 : Int32)) (100 : Int32)) + (1 : Int32))), .val (.long (q1 &&& (9223372036854775807 : Int64))), .second, .val (.long (own_f1 ((own_irem (p0 &&& (2147483647 : Int32)) (100 : Int32)) + (1 : Int32)) (q1 &&& (9223372036854775807 : Int64)))), .second, .val (.int ((100 : Int32) - ((own_irem (p0 &&& (2147483647 : Int32)) (100 : Int32)) + (1 : Int32)))), .val (.long ((q1 &&& (9223372036854775807 : Int64)) * (((100 : Int32) - ((own_irem (p0 &&& (2147483647 : Int32)) (100 : Int32)) + (1 : Int32))).toInt64))), .second, .val (.int (0 : Int32)), .unset, .unset] [(.int ((own_irem (p0 &&& (2147483647 : Int32)) (100 : Int32)) + (1 : Int32))), (.long (9223372036854775807 : Int64)), (.long (own_f1 ((own_irem (p0 &&& (2147483647 : Int32)) (100 : Int32)) + (1 : Int32)) (q1 &&& (9223372036854775807 : Int64))))])) _
            refine XS.i2l X1.here hx rfl (hb hby at_118) rfl ?_
            show Steps p.tables e below (T1.setTop (mkF m 119 #[.val (.int p0), .val (.long q1), .second, .val (.int ((own_irem (p0 &&& (2147483647 : Int32)) (100 : Int32)) + (1 : Int32))), .val (.long (q1 &&& (9223372036854775807 : Int64))), .second, .val (.long (own_f1 ((own_irem (p0 &&& (2147483647 : Int32)) (100 : Int32)) + (1 : Int32)) (q1 &&& (9223372036854775807 : Int64)))), .second, .val (.int ((100 : Int32) - ((own_irem (p0 &&& (2147483647 : Int32)) (100 : Int32)) + (1 : Int32)))), .val (.long ((q1 &&& (9223372036854775807 : Int64)) * (((100 : Int32) - ((own_irem (p0 &&& (2147483647 : Int32)) (100 : Int32)) + (1 : Int32))).toInt64))), .second, .val (.int (0 : Int32)), .unset, .unset] [(.long (((own_irem (p0 &&& (2147483647 : Int32)) (100 : Int32)) + (1 : Int32)).toInt64)), (.long (9223372036854775807 : Int64)), (.long (own_f1 ((own_irem (p0 &&& (2147483647 : Int32)) (100 : Int32)) + (1 : Int32)) (q1 &&& (9223372036854775807 : Int64))))])) _
            refine XS.ldiv X1.here hx rfl (hb hby at_119) rfl (own_nz1 (own_r1 p0)) ?_
            show Steps p.tables e below (T1.setTop (mkF m 120 #[.val (.int p0), .val (.long q1), .second, .val (.int ((own_irem (p0 &&& (2147483647 : Int32)) (100 : Int32)) + (1 : Int32))), .val (.long (q1 &&& (9223372036854775807 : Int64))), .second, .val (.long (own_f1 ((own_irem (p0 &&& (2147483647 : Int32)) (100 : Int32)) + (1 : Int32)) (q1 &&& (9223372036854775807 : Int64)))), .second, .val (.int ((100 : Int32) - ((own_irem (p0 &&& (2147483647 : Int32)) (100 : Int32)) + (1 : Int32)))), .val (.long ((q1 &&& (9223372036854775807 : Int64)) * (((100 : Int32) - ((own_irem (p0 &&& (2147483647 : Int32)) (100 : Int32)) + (1 : Int32))).toInt64))), .second, .val (.int (0 : Int32)), .unset, .unset] [(.long ((9223372036854775807 : Int64) / (((own_irem (p0 &&& (2147483647 : Int32)) (100 : Int32)) + (1 : Int32)).toInt64))), (.long (own_f1 ((own_irem (p0 &&& (2147483647 : Int32)) (100 : Int32)) + (1 : Int32)) (q1 &&& (9223372036854775807 : Int64))))])) _
            refine XS.lcmp X1.here hx rfl (hb hby at_120) rfl ?_
            exact k)
          by_cases hc121_15 : ((9223372036854775807 : Int64) / (((own_irem (p0 &&& (2147483647 : Int32)) (100 : Int32)) + (1 : Int32)).toInt64)) < (own_f1 ((own_irem (p0 &&& (2147483647 : Int32)) (100 : Int32)) + (1 : Int32)) (q1 &&& (9223372036854775807 : Int64)))
          · obtain ⟨fs, hr, hrun, hended, hW, hsame⟩ := X1.leave (v := some (.int (0 : Int32))) (fun h => by rw [Bd.returns] at h; cases h)
            refine ⟨_, _, pre14 _ ?_, hrun, hended, _, _, rfl, ?_, ⟨_, rfl⟩, hW, hsame.mono (by decide) (by decide)⟩
            · show Steps p.tables e below (T1.setTop (mkF m 121 #[.val (.int p0), .val (.long q1), .second, .val (.int ((own_irem (p0 &&& (2147483647 : Int32)) (100 : Int32)) + (1 : Int32))), .val (.long (q1 &&& (9223372036854775807 : Int64))), .second, .val (.long (own_f1 ((own_irem (p0 &&& (2147483647 : Int32)) (100 : Int32)) + (1 : Int32)) (q1 &&& (9223372036854775807 : Int64)))), .second, .val (.int ((100 : Int32) - ((own_irem (p0 &&& (2147483647 : Int32)) (100 : Int32)) + (1 : Int32)))), .val (.long ((q1 &&& (9223372036854775807 : Int64)) * (((100 : Int32) - ((own_irem (p0 &&& (2147483647 : Int32)) (100 : Int32)) + (1 : Int32))).toInt64))), .second, .val (.int (0 : Int32)), .unset, .unset] [(.int (lcmpW (own_f1 ((own_irem (p0 &&& (2147483647 : Int32)) (100 : Int32)) + (1 : Int32)) (q1 &&& (9223372036854775807 : Int64))) ((9223372036854775807 : Int64) / (((own_irem (p0 &&& (2147483647 : Int32)) (100 : Int32)) + (1 : Int32)).toInt64))))])) _
              refine XS.ifNo X1.here hx rfl (hb hby at_121) rfl ((if0 _ _).trans (tlt ((lw_gt _ _).mpr hc121_15)).2.2.2) ?_
              show Steps p.tables e below (T1.setTop (mkF m 124 #[.val (.int p0), .val (.long q1), .second, .val (.int ((own_irem (p0 &&& (2147483647 : Int32)) (100 : Int32)) + (1 : Int32))), .val (.long (q1 &&& (9223372036854775807 : Int64))), .second, .val (.long (own_f1 ((own_irem (p0 &&& (2147483647 : Int32)) (100 : Int32)) + (1 : Int32)) (q1 &&& (9223372036854775807 : Int64)))), .second, .val (.int ((100 : Int32) - ((own_irem (p0 &&& (2147483647 : Int32)) (100 : Int32)) + (1 : Int32)))), .val (.long ((q1 &&& (9223372036854775807 : Int64)) * (((100 : Int32) - ((own_irem (p0 &&& (2147483647 : Int32)) (100 : Int32)) + (1 : Int32))).toInt64))), .second, .val (.int (0 : Int32)), .unset, .unset] [])) _
              refine XS.iconst X1.here hx rfl (hb hby at_124) ?_
              show Steps p.tables e below (T1.setTop (mkF m 125 #[.val (.int p0), .val (.long q1), .second, .val (.int ((own_irem (p0 &&& (2147483647 : Int32)) (100 : Int32)) + (1 : Int32))), .val (.long (q1 &&& (9223372036854775807 : Int64))), .second, .val (.long (own_f1 ((own_irem (p0 &&& (2147483647 : Int32)) (100 : Int32)) + (1 : Int32)) (q1 &&& (9223372036854775807 : Int64)))), .second, .val (.int ((100 : Int32) - ((own_irem (p0 &&& (2147483647 : Int32)) (100 : Int32)) + (1 : Int32)))), .val (.long ((q1 &&& (9223372036854775807 : Int64)) * (((100 : Int32) - ((own_irem (p0 &&& (2147483647 : Int32)) (100 : Int32)) + (1 : Int32))).toInt64))), .second, .val (.int (0 : Int32)), .unset, .unset] [(.int (0 : Int32))])) _
              exact retN X1 hx (t := .boolean) Bd.returns (by simp) (hb hby at_125) hr
            · show rm0Q Z p0 q1 h0 n0 _ T1.heap _
              rw [e1q]
              have hres : own_f0 p0 q1 = (0 : Int32) := by
                simp only [own_f0, if_neg hc33_3, if_neg hc63_7, if_pos hc75_11, if_neg hc109_13, if_pos hc121_15]
              exact ⟨by rw [hres], N1, rfl⟩
          · have pre16 : ∀ t, Steps p.tables e below (T1.setTop (mkF m 140 #[.val (.int p0), .val (.long q1), .second, .val (.int ((own_irem (p0 &&& (2147483647 : Int32)) (100 : Int32)) + (1 : Int32))), .val (.long (q1 &&& (9223372036854775807 : Int64))), .second, .val (.long (own_f1 ((own_irem (p0 &&& (2147483647 : Int32)) (100 : Int32)) + (1 : Int32)) (q1 &&& (9223372036854775807 : Int64)))), .second, .val (.int ((100 : Int32) - ((own_irem (p0 &&& (2147483647 : Int32)) (100 : Int32)) + (1 : Int32)))), .val (.long ((q1 &&& (9223372036854775807 : Int64)) * (((100 : Int32) - ((own_irem (p0 &&& (2147483647 : Int32)) (100 : Int32)) + (1 : Int32))).toInt64))), .second, .val (.int (0 : Int32)), .val (.long (((q1 &&& (9223372036854775807 : Int64)) * (((100 : Int32) - ((own_irem (p0 &&& (2147483647 : Int32)) (100 : Int32)) + (1 : Int32))).toInt64)) - ((own_f1 ((own_irem (p0 &&& (2147483647 : Int32)) (100 : Int32)) + (1 : Int32)) (q1 &&& (9223372036854775807 : Int64))) * (((own_irem (p0 &&& (2147483647 : Int32)) (100 : Int32)) + (1 : Int32)).toInt64)))), .second] [(.int (lcmpW (((q1 &&& (9223372036854775807 : Int64)) * (((100 : Int32) - ((own_irem (p0 &&& (2147483647 : Int32)) (100 : Int32)) + (1 : Int32))).toInt64)) - ((own_f1 ((own_irem (p0 &&& (2147483647 : Int32)) (100 : Int32)) + (1 : Int32)) (q1 &&& (9223372036854775807 : Int64))) * (((own_irem (p0 &&& (2147483647 : Int32)) (100 : Int32)) + (1 : Int32)).toInt64))) (0 : Int64)))])) t → Steps p.tables e below (s₁.setTop (entryFrame m #[(.int p0), (.long q1)] maxLocals)) t := fun t k => pre14 t (by
              show Steps p.tables e below (T1.setTop (mkF m 121 #[.val (.int p0), .val (.long q1), .second, .val (.int ((own_irem (p0 &&& (2147483647 : Int32)) (100 : Int32)) + (1 : Int32))), .val (.long (q1 &&& (9223372036854775807 : Int64))), .second, .val (.long (own_f1 ((own_irem (p0 &&& (2147483647 : Int32)) (100 : Int32)) + (1 : Int32)) (q1 &&& (9223372036854775807 : Int64)))), .second, .val (.int ((100 : Int32) - ((own_irem (p0 &&& (2147483647 : Int32)) (100 : Int32)) + (1 : Int32)))), .val (.long ((q1 &&& (9223372036854775807 : Int64)) * (((100 : Int32) - ((own_irem (p0 &&& (2147483647 : Int32)) (100 : Int32)) + (1 : Int32))).toInt64))), .second, .val (.int (0 : Int32)), .unset, .unset] [(.int (lcmpW (own_f1 ((own_irem (p0 &&& (2147483647 : Int32)) (100 : Int32)) + (1 : Int32)) (q1 &&& (9223372036854775807 : Int64))) ((9223372036854775807 : Int64) / (((own_irem (p0 &&& (2147483647 : Int32)) (100 : Int32)) + (1 : Int32)).toInt64))))])) _
              refine XS.ifYes X1.here hx rfl (pc0 := 121) (pc' := 126) rfl (hb hby at_121) rfl ((if0 _ _).trans (flt (fun q => hc121_15 ((lw_gt _ _).mp q))).2.2.2) (by decide) (by decide) ?_
              show Steps p.tables e below (T1.setTop (mkF m 126 #[.val (.int p0), .val (.long q1), .second, .val (.int ((own_irem (p0 &&& (2147483647 : Int32)) (100 : Int32)) + (1 : Int32))), .val (.long (q1 &&& (9223372036854775807 : Int64))), .second, .val (.long (own_f1 ((own_irem (p0 &&& (2147483647 : Int32)) (100 : Int32)) + (1 : Int32)) (q1 &&& (9223372036854775807 : Int64)))), .second, .val (.int ((100 : Int32) - ((own_irem (p0 &&& (2147483647 : Int32)) (100 : Int32)) + (1 : Int32)))), .val (.long ((q1 &&& (9223372036854775807 : Int64)) * (((100 : Int32) - ((own_irem (p0 &&& (2147483647 : Int32)) (100 : Int32)) + (1 : Int32))).toInt64))), .second, .val (.int (0 : Int32)), .unset, .unset] [])) _
              refine XS.lload X1.here hx rfl (hb hby at_126) rfl ?_
              show Steps p.tables e below (T1.setTop (mkF m 128 #[.val (.int p0), .val (.long q1), .second, .val (.int ((own_irem (p0 &&& (2147483647 : Int32)) (100 : Int32)) + (1 : Int32))), .val (.long (q1 &&& (9223372036854775807 : Int64))), .second, .val (.long (own_f1 ((own_irem (p0 &&& (2147483647 : Int32)) (100 : Int32)) + (1 : Int32)) (q1 &&& (9223372036854775807 : Int64)))), .second, .val (.int ((100 : Int32) - ((own_irem (p0 &&& (2147483647 : Int32)) (100 : Int32)) + (1 : Int32)))), .val (.long ((q1 &&& (9223372036854775807 : Int64)) * (((100 : Int32) - ((own_irem (p0 &&& (2147483647 : Int32)) (100 : Int32)) + (1 : Int32))).toInt64))), .second, .val (.int (0 : Int32)), .unset, .unset] [(.long ((q1 &&& (9223372036854775807 : Int64)) * (((100 : Int32) - ((own_irem (p0 &&& (2147483647 : Int32)) (100 : Int32)) + (1 : Int32))).toInt64)))])) _
              refine XS.lload X1.here hx rfl (hb hby at_128) rfl ?_
              show Steps p.tables e below (T1.setTop (mkF m 130 #[.val (.int p0), .val (.long q1), .second, .val (.int ((own_irem (p0 &&& (2147483647 : Int32)) (100 : Int32)) + (1 : Int32))), .val (.long (q1 &&& (9223372036854775807 : Int64))), .second, .val (.long (own_f1 ((own_irem (p0 &&& (2147483647 : Int32)) (100 : Int32)) + (1 : Int32)) (q1 &&& (9223372036854775807 : Int64)))), .second, .val (.int ((100 : Int32) - ((own_irem (p0 &&& (2147483647 : Int32)) (100 : Int32)) + (1 : Int32)))), .val (.long ((q1 &&& (9223372036854775807 : Int64)) * (((100 : Int32) - ((own_irem (p0 &&& (2147483647 : Int32)) (100 : Int32)) + (1 : Int32))).toInt64))), .second, .val (.int (0 : Int32)), .unset, .unset] [(.long (own_f1 ((own_irem (p0 &&& (2147483647 : Int32)) (100 : Int32)) + (1 : Int32)) (q1 &&& (9223372036854775807 : Int64)))), (.long ((q1 &&& (9223372036854775807 : Int64)) * (((100 : Int32) - ((own_irem (p0 &&& (2147483647 : Int32)) (100 : Int32)) + (1 : Int32))).toInt64)))])) _
              refine XS.iloadN X1.here hx rfl (hb hby at_130) rfl ?_
              show Steps p.tables e below (T1.setTop (mkF m 131 #[.val (.int p0), .val (.long q1), .second, .val (.int ((own_irem (p0 &&& (2147483647 : Int32)) (100 : Int32)) + (1 : Int32))), .val (.long (q1 &&& (9223372036854775807 : Int64))), .second, .val (.long (own_f1 ((own_irem (p0 &&& (2147483647 : Int32)) (100 : Int32)) + (1 : Int32)) (q1 &&& (9223372036854775807 : Int64)))), .second, .val (.int ((100 : Int32) - ((own_irem (p0 &&& (2147483647 : Int32)) (100 : Int32)) + (1 : Int32)))), .val (.long ((q1 &&& (9223372036854775807 : Int64)) * (((100 : Int32) - ((own_irem (p0 &&& (2147483647 : Int32)) (100 : Int32)) + (1 : Int32))).toInt64))), .second, .val (.int (0 : Int32)), .unset, .unset] [(.int ((own_irem (p0 &&& (2147483647 : Int32)) (100 : Int32)) + (1 : Int32))), (.long (own_f1 ((own_irem (p0 &&& (2147483647 : Int32)) (100 : Int32)) + (1 : Int32)) (q1 &&& (9223372036854775807 : Int64)))), (.long ((q1 &&& (9223372036854775807 : Int64)) * (((100 : Int32) - ((own_irem (p0 &&& (2147483647 : Int32)) (100 : Int32)) + (1 : Int32))).toInt64)))])) _
              refine XS.i2l X1.here hx rfl (hb hby at_131) rfl ?_
              show Steps p.tables e below (T1.setTop (mkF m 132 #[.val (.int p0), .val (.long q1), .second, .val (.int ((own_irem (p0 &&& (2147483647 : Int32)) (100 : Int32)) + (1 : Int32))), .val (.long (q1 &&& (9223372036854775807 : Int64))), .second, .val (.long (own_f1 ((own_irem (p0 &&& (2147483647 : Int32)) (100 : Int32)) + (1 : Int32)) (q1 &&& (9223372036854775807 : Int64)))), .second, .val (.int ((100 : Int32) - ((own_irem (p0 &&& (2147483647 : Int32)) (100 : Int32)) + (1 : Int32)))), .val (.long ((q1 &&& (9223372036854775807 : Int64)) * (((100 : Int32) - ((own_irem (p0 &&& (2147483647 : Int32)) (100 : Int32)) + (1 : Int32))).toInt64))), .second, .val (.int (0 : Int32)), .unset, .unset] [(.long (((own_irem (p0 &&& (2147483647 : Int32)) (100 : Int32)) + (1 : Int32)).toInt64)), (.long (own_f1 ((own_irem (p0 &&& (2147483647 : Int32)) (100 : Int32)) + (1 : Int32)) (q1 &&& (9223372036854775807 : Int64)))), (.long ((q1 &&& (9223372036854775807 : Int64)) * (((100 : Int32) - ((own_irem (p0 &&& (2147483647 : Int32)) (100 : Int32)) + (1 : Int32))).toInt64)))])) _
              refine XS.lmul X1.here hx rfl (hb hby at_132) rfl ?_
              show Steps p.tables e below (T1.setTop (mkF m 133 #[.val (.int p0), .val (.long q1), .second, .val (.int ((own_irem (p0 &&& (2147483647 : Int32)) (100 : Int32)) + (1 : Int32))), .val (.long (q1 &&& (9223372036854775807 : Int64))), .second, .val (.long (own_f1 ((own_irem (p0 &&& (2147483647 : Int32)) (100 : Int32)) + (1 : Int32)) (q1 &&& (9223372036854775807 : Int64)))), .second, .val (.int ((100 : Int32) - ((own_irem (p0 &&& (2147483647 : Int32)) (100 : Int32)) + (1 : Int32)))), .val (.long ((q1 &&& (9223372036854775807 : Int64)) * (((100 : Int32) - ((own_irem (p0 &&& (2147483647 : Int32)) (100 : Int32)) + (1 : Int32))).toInt64))), .second, .val (.int (0 : Int32)), .unset, .unset] [(.long ((own_f1 ((own_irem (p0 &&& (2147483647 : Int32)) (100 : Int32)) + (1 : Int32)) (q1 &&& (9223372036854775807 : Int64))) * (((own_irem (p0 &&& (2147483647 : Int32)) (100 : Int32)) + (1 : Int32)).toInt64))), (.long ((q1 &&& (9223372036854775807 : Int64)) * (((100 : Int32) - ((own_irem (p0 &&& (2147483647 : Int32)) (100 : Int32)) + (1 : Int32))).toInt64)))])) _
              refine XS.lsub X1.here hx rfl (hb hby at_133) rfl ?_
              show Steps p.tables e below (T1.setTop (mkF m 134 #[.val (.int p0), .val (.long q1), .second, .val (.int ((own_irem (p0 &&& (2147483647 : Int32)) (100 : Int32)) + (1 : Int32))), .val (.long (q1 &&& (9223372036854775807 : Int64))), .second, .val (.long (own_f1 ((own_irem (p0 &&& (2147483647 : Int32)) (100 : Int32)) + (1 : Int32)) (q1 &&& (9223372036854775807 : Int64)))), .second, .val (.int ((100 : Int32) - ((own_irem (p0 &&& (2147483647 : Int32)) (100 : Int32)) + (1 : Int32)))), .val (.long ((q1 &&& (9223372036854775807 : Int64)) * (((100 : Int32) - ((own_irem (p0 &&& (2147483647 : Int32)) (100 : Int32)) + (1 : Int32))).toInt64))), .second, .val (.int (0 : Int32)), .unset, .unset] [(.long (((q1 &&& (9223372036854775807 : Int64)) * (((100 : Int32) - ((own_irem (p0 &&& (2147483647 : Int32)) (100 : Int32)) + (1 : Int32))).toInt64)) - ((own_f1 ((own_irem (p0 &&& (2147483647 : Int32)) (100 : Int32)) + (1 : Int32)) (q1 &&& (9223372036854775807 : Int64))) * (((own_irem (p0 &&& (2147483647 : Int32)) (100 : Int32)) + (1 : Int32)).toInt64))))])) _
              refine XS.lstore X1.here hx rfl (hb hby at_134) rfl (l' := #[.val (.int p0), .val (.long q1), .second, .val (.int ((own_irem (p0 &&& (2147483647 : Int32)) (100 : Int32)) + (1 : Int32))), .val (.long (q1 &&& (9223372036854775807 : Int64))), .second, .val (.long (own_f1 ((own_irem (p0 &&& (2147483647 : Int32)) (100 : Int32)) + (1 : Int32)) (q1 &&& (9223372036854775807 : Int64)))), .second, .val (.int ((100 : Int32) - ((own_irem (p0 &&& (2147483647 : Int32)) (100 : Int32)) + (1 : Int32)))), .val (.long ((q1 &&& (9223372036854775807 : Int64)) * (((100 : Int32) - ((own_irem (p0 &&& (2147483647 : Int32)) (100 : Int32)) + (1 : Int32))).toInt64))), .second, .val (.int (0 : Int32)), .val (.long (((q1 &&& (9223372036854775807 : Int64)) * (((100 : Int32) - ((own_irem (p0 &&& (2147483647 : Int32)) (100 : Int32)) + (1 : Int32))).toInt64)) - ((own_f1 ((own_irem (p0 &&& (2147483647 : Int32)) (100 : Int32)) + (1 : Int32)) (q1 &&& (9223372036854775807 : Int64))) * (((own_irem (p0 &&& (2147483647 : Int32)) (100 : Int32)) + (1 : Int32)).toInt64)))), .second]) rfl ?_
              show Steps p.tables e below (T1.setTop (mkF m 136 #[.val (.int p0), .val (.long q1), .second, .val (.int ((own_irem (p0 &&& (2147483647 : Int32)) (100 : Int32)) + (1 : Int32))), .val (.long (q1 &&& (9223372036854775807 : Int64))), .second, .val (.long (own_f1 ((own_irem (p0 &&& (2147483647 : Int32)) (100 : Int32)) + (1 : Int32)) (q1 &&& (9223372036854775807 : Int64)))), .second, .val (.int ((100 : Int32) - ((own_irem (p0 &&& (2147483647 : Int32)) (100 : Int32)) + (1 : Int32)))), .val (.long ((q1 &&& (9223372036854775807 : Int64)) * (((100 : Int32) - ((own_irem (p0 &&& (2147483647 : Int32)) (100 : Int32)) + (1 : Int32))).toInt64))), .second, .val (.int (0 : Int32)), .val (.long (((q1 &&& (9223372036854775807 : Int64)) * (((100 : Int32) - ((own_irem (p0 &&& (2147483647 : Int32)) (100 : Int32)) + (1 : Int32))).toInt64)) - ((own_f1 ((own_irem (p0 &&& (2147483647 : Int32)) (100 : Int32)) + (1 : Int32)) (q1 &&& (9223372036854775807 : Int64))) * (((own_irem (p0 &&& (2147483647 : Int32)) (100 : Int32)) + (1 : Int32)).toInt64)))), .second] [])) _
              refine XS.lload X1.here hx rfl (hb hby at_136) rfl ?_
              show Steps p.tables e below (T1.setTop (mkF m 138 #[.val (.int p0), .val (.long q1), .second, .val (.int ((own_irem (p0 &&& (2147483647 : Int32)) (100 : Int32)) + (1 : Int32))), .val (.long (q1 &&& (9223372036854775807 : Int64))), .second, .val (.long (own_f1 ((own_irem (p0 &&& (2147483647 : Int32)) (100 : Int32)) + (1 : Int32)) (q1 &&& (9223372036854775807 : Int64)))), .second, .val (.int ((100 : Int32) - ((own_irem (p0 &&& (2147483647 : Int32)) (100 : Int32)) + (1 : Int32)))), .val (.long ((q1 &&& (9223372036854775807 : Int64)) * (((100 : Int32) - ((own_irem (p0 &&& (2147483647 : Int32)) (100 : Int32)) + (1 : Int32))).toInt64))), .second, .val (.int (0 : Int32)), .val (.long (((q1 &&& (9223372036854775807 : Int64)) * (((100 : Int32) - ((own_irem (p0 &&& (2147483647 : Int32)) (100 : Int32)) + (1 : Int32))).toInt64)) - ((own_f1 ((own_irem (p0 &&& (2147483647 : Int32)) (100 : Int32)) + (1 : Int32)) (q1 &&& (9223372036854775807 : Int64))) * (((own_irem (p0 &&& (2147483647 : Int32)) (100 : Int32)) + (1 : Int32)).toInt64)))), .second] [(.long (((q1 &&& (9223372036854775807 : Int64)) * (((100 : Int32) - ((own_irem (p0 &&& (2147483647 : Int32)) (100 : Int32)) + (1 : Int32))).toInt64)) - ((own_f1 ((own_irem (p0 &&& (2147483647 : Int32)) (100 : Int32)) + (1 : Int32)) (q1 &&& (9223372036854775807 : Int64))) * (((own_irem (p0 &&& (2147483647 : Int32)) (100 : Int32)) + (1 : Int32)).toInt64))))])) _
              refine XS.lconst X1.here hx rfl (hb hby at_138) ?_
              show Steps p.tables e below (T1.setTop (mkF m 139 #[.val (.int p0), .val (.long q1), .second, .val (.int ((own_irem (p0 &&& (2147483647 : Int32)) (100 : Int32)) + (1 : Int32))), .val (.long (q1 &&& (9223372036854775807 : Int64))), .second, .val (.long (own_f1 ((own_irem (p0 &&& (2147483647 : Int32)) (100 : Int32)) + (1 : Int32)) (q1 &&& (9223372036854775807 : Int64)))), .second, .val (.int ((100 : Int32) - ((own_irem (p0 &&& (2147483647 : Int32)) (100 : Int32)) + (1 : Int32)))), .val (.long ((q1 &&& (9223372036854775807 : Int64)) * (((100 : Int32) - ((own_irem (p0 &&& (2147483647 : Int32)) (100 : Int32)) + (1 : Int32))).toInt64))), .second, .val (.int (0 : Int32)), .val (.long (((q1 &&& (9223372036854775807 : Int64)) * (((100 : Int32) - ((own_irem (p0 &&& (2147483647 : Int32)) (100 : Int32)) + (1 : Int32))).toInt64)) - ((own_f1 ((own_irem (p0 &&& (2147483647 : Int32)) (100 : Int32)) + (1 : Int32)) (q1 &&& (9223372036854775807 : Int64))) * (((own_irem (p0 &&& (2147483647 : Int32)) (100 : Int32)) + (1 : Int32)).toInt64)))), .second] [(.long (0 : Int64)), (.long (((q1 &&& (9223372036854775807 : Int64)) * (((100 : Int32) - ((own_irem (p0 &&& (2147483647 : Int32)) (100 : Int32)) + (1 : Int32))).toInt64)) - ((own_f1 ((own_irem (p0 &&& (2147483647 : Int32)) (100 : Int32)) + (1 : Int32)) (q1 &&& (9223372036854775807 : Int64))) * (((own_irem (p0 &&& (2147483647 : Int32)) (100 : Int32)) + (1 : Int32)).toInt64))))])) _
              refine XS.lcmp X1.here hx rfl (hb hby at_139) rfl ?_
              exact k)
            by_cases hc140_17 : (((q1 &&& (9223372036854775807 : Int64)) * (((100 : Int32) - ((own_irem (p0 &&& (2147483647 : Int32)) (100 : Int32)) + (1 : Int32))).toInt64)) - ((own_f1 ((own_irem (p0 &&& (2147483647 : Int32)) (100 : Int32)) + (1 : Int32)) (q1 &&& (9223372036854775807 : Int64))) * (((own_irem (p0 &&& (2147483647 : Int32)) (100 : Int32)) + (1 : Int32)).toInt64))) < (0 : Int64)
            · obtain ⟨fs, hr, hrun, hended, hW, hsame⟩ := X1.leave (v := some (.int (0 : Int32))) (fun h => by rw [Bd.returns] at h; cases h)
              refine ⟨_, _, pre16 _ ?_, hrun, hended, _, _, rfl, ?_, ⟨_, rfl⟩, hW, hsame.mono (by decide) (by decide)⟩
              · show Steps p.tables e below (T1.setTop (mkF m 140 #[.val (.int p0), .val (.long q1), .second, .val (.int ((own_irem (p0 &&& (2147483647 : Int32)) (100 : Int32)) + (1 : Int32))), .val (.long (q1 &&& (9223372036854775807 : Int64))), .second, .val (.long (own_f1 ((own_irem (p0 &&& (2147483647 : Int32)) (100 : Int32)) + (1 : Int32)) (q1 &&& (9223372036854775807 : Int64)))), .second, .val (.int ((100 : Int32) - ((own_irem (p0 &&& (2147483647 : Int32)) (100 : Int32)) + (1 : Int32)))), .val (.long ((q1 &&& (9223372036854775807 : Int64)) * (((100 : Int32) - ((own_irem (p0 &&& (2147483647 : Int32)) (100 : Int32)) + (1 : Int32))).toInt64))), .second, .val (.int (0 : Int32)), .val (.long (((q1 &&& (9223372036854775807 : Int64)) * (((100 : Int32) - ((own_irem (p0 &&& (2147483647 : Int32)) (100 : Int32)) + (1 : Int32))).toInt64)) - ((own_f1 ((own_irem (p0 &&& (2147483647 : Int32)) (100 : Int32)) + (1 : Int32)) (q1 &&& (9223372036854775807 : Int64))) * (((own_irem (p0 &&& (2147483647 : Int32)) (100 : Int32)) + (1 : Int32)).toInt64)))), .second] [(.int (lcmpW (((q1 &&& (9223372036854775807 : Int64)) * (((100 : Int32) - ((own_irem (p0 &&& (2147483647 : Int32)) (100 : Int32)) + (1 : Int32))).toInt64)) - ((own_f1 ((own_irem (p0 &&& (2147483647 : Int32)) (100 : Int32)) + (1 : Int32)) (q1 &&& (9223372036854775807 : Int64))) * (((own_irem (p0 &&& (2147483647 : Int32)) (100 : Int32)) + (1 : Int32)).toInt64))) (0 : Int64)))])) _
                refine XS.ifYes X1.here hx rfl (pc0 := 140) (pc' := 155) rfl (hb hby at_140) rfl ((if0 _ _).trans (tlt ((lw_lt _ _).mpr hc140_17)).1) (by decide) (by decide) ?_
                show Steps p.tables e below (T1.setTop (mkF m 155 #[.val (.int p0), .val (.long q1), .second, .val (.int ((own_irem (p0 &&& (2147483647 : Int32)) (100 : Int32)) + (1 : Int32))), .val (.long (q1 &&& (9223372036854775807 : Int64))), .second, .val (.long (own_f1 ((own_irem (p0 &&& (2147483647 : Int32)) (100 : Int32)) + (1 : Int32)) (q1 &&& (9223372036854775807 : Int64)))), .second, .val (.int ((100 : Int32) - ((own_irem (p0 &&& (2147483647 : Int32)) (100 : Int32)) + (1 : Int32)))), .val (.long ((q1 &&& (9223372036854775807 : Int64)) * (((100 : Int32) - ((own_irem (p0 &&& (2147483647 : Int32)) (100 : Int32)) + (1 : Int32))).toInt64))), .second, .val (.int (0 : Int32)), .val (.long (((q1 &&& (9223372036854775807 : Int64)) * (((100 : Int32) - ((own_irem (p0 &&& (2147483647 : Int32)) (100 : Int32)) + (1 : Int32))).toInt64)) - ((own_f1 ((own_irem (p0 &&& (2147483647 : Int32)) (100 : Int32)) + (1 : Int32)) (q1 &&& (9223372036854775807 : Int64))) * (((own_irem (p0 &&& (2147483647 : Int32)) (100 : Int32)) + (1 : Int32)).toInt64)))), .second] [])) _
                refine XS.iconst X1.here hx rfl (hb hby at_155) ?_
                show Steps p.tables e below (T1.setTop (mkF m 156 #[.val (.int p0), .val (.long q1), .second, .val (.int ((own_irem (p0 &&& (2147483647 : Int32)) (100 : Int32)) + (1 : Int32))), .val (.long (q1 &&& (9223372036854775807 : Int64))), .second, .val (.long (own_f1 ((own_irem (p0 &&& (2147483647 : Int32)) (100 : Int32)) + (1 : Int32)) (q1 &&& (9223372036854775807 : Int64)))), .second, .val (.int ((100 : Int32) - ((own_irem (p0 &&& (2147483647 : Int32)) (100 : Int32)) + (1 : Int32)))), .val (.long ((q1 &&& (9223372036854775807 : Int64)) * (((100 : Int32) - ((own_irem (p0 &&& (2147483647 : Int32)) (100 : Int32)) + (1 : Int32))).toInt64))), .second, .val (.int (0 : Int32)), .val (.long (((q1 &&& (9223372036854775807 : Int64)) * (((100 : Int32) - ((own_irem (p0 &&& (2147483647 : Int32)) (100 : Int32)) + (1 : Int32))).toInt64)) - ((own_f1 ((own_irem (p0 &&& (2147483647 : Int32)) (100 : Int32)) + (1 : Int32)) (q1 &&& (9223372036854775807 : Int64))) * (((own_irem (p0 &&& (2147483647 : Int32)) (100 : Int32)) + (1 : Int32)).toInt64)))), .second] [(.int (0 : Int32))])) _
                exact retN X1 hx (t := .boolean) Bd.returns (by simp) (hb hby at_156) hr
              · show rm0Q Z p0 q1 h0 n0 _ T1.heap _
                rw [e1q]
                have hres : own_f0 p0 q1 = (0 : Int32) := by
                  simp only [own_f0, if_neg hc33_3, if_neg hc63_7, if_pos hc75_11, if_neg hc109_13, if_neg hc121_15, if_pos hc140_17]
                exact ⟨by rw [hres], N1, rfl⟩
            · have pre18 : ∀ t, Steps p.tables e below (T1.setTop (mkF m 148 #[.val (.int p0), .val (.long q1), .second, .val (.int ((own_irem (p0 &&& (2147483647 : Int32)) (100 : Int32)) + (1 : Int32))), .val (.long (q1 &&& (9223372036854775807 : Int64))), .second, .val (.long (own_f1 ((own_irem (p0 &&& (2147483647 : Int32)) (100 : Int32)) + (1 : Int32)) (q1 &&& (9223372036854775807 : Int64)))), .second, .val (.int ((100 : Int32) - ((own_irem (p0 &&& (2147483647 : Int32)) (100 : Int32)) + (1 : Int32)))), .val (.long ((q1 &&& (9223372036854775807 : Int64)) * (((100 : Int32) - ((own_irem (p0 &&& (2147483647 : Int32)) (100 : Int32)) + (1 : Int32))).toInt64))), .second, .val (.int (0 : Int32)), .val (.long (((q1 &&& (9223372036854775807 : Int64)) * (((100 : Int32) - ((own_irem (p0 &&& (2147483647 : Int32)) (100 : Int32)) + (1 : Int32))).toInt64)) - ((own_f1 ((own_irem (p0 &&& (2147483647 : Int32)) (100 : Int32)) + (1 : Int32)) (q1 &&& (9223372036854775807 : Int64))) * (((own_irem (p0 &&& (2147483647 : Int32)) (100 : Int32)) + (1 : Int32)).toInt64)))), .second] [(.int (lcmpW (((q1 &&& (9223372036854775807 : Int64)) * (((100 : Int32) - ((own_irem (p0 &&& (2147483647 : Int32)) (100 : Int32)) + (1 : Int32))).toInt64)) - ((own_f1 ((own_irem (p0 &&& (2147483647 : Int32)) (100 : Int32)) + (1 : Int32)) (q1 &&& (9223372036854775807 : Int64))) * (((own_irem (p0 &&& (2147483647 : Int32)) (100 : Int32)) + (1 : Int32)).toInt64))) (((own_irem (p0 &&& (2147483647 : Int32)) (100 : Int32)) + (1 : Int32)).toInt64)))])) t → Steps p.tables e below (s₁.setTop (entryFrame m #[(.int p0), (.long q1)] maxLocals)) t := fun t k => pre16 t (by
                show Steps p.tables e below (T1.setTop (mkF m 140 #[.val (.int p0), .val (.long q1), .second, .val (.int ((own_irem (p0 &&& (2147483647 : Int32)) (100 : Int32)) + (1 : Int32))), .val (.long (q1 &&& (9223372036854775807 : Int64))), .second, .val (.long (own_f1 ((own_irem (p0 &&& (2147483647 : Int32)) (100 : Int32)) + (1 : Int32)) (q1 &&& (9223372036854775807 : Int64)))), .second, .val (.int ((100 : Int32) - ((own_irem (p0 &&& (2147483647 : Int32)) (100 : Int32)) + (1 : Int32)))), .val (.long ((q1 &&& (9223372036854775807 : Int64)) * (((100 : Int32) - ((own_irem (p0 &&& (2147483647 : Int32)) (100 : Int32)) + (1 : Int32))).toInt64))), .second, .val (.int (0 : Int32)), .val (.long (((q1 &&& (9223372036854775807 : Int64)) * (((100 : Int32) - ((own_irem (p0 &&& (2147483647 : Int32)) (100 : Int32)) + (1 : Int32))).toInt64)) - ((own_f1 ((own_irem (p0 &&& (2147483647 : Int32)) (100 : Int32)) + (1 : Int32)) (q1 &&& (9223372036854775807 : Int64))) * (((own_irem (p0 &&& (2147483647 : Int32)) (100 : Int32)) + (1 : Int32)).toInt64)))), .second] [(.int (lcmpW (((q1 &&& (9223372036854775807 : Int64)) * (((100 : Int32) - ((own_irem (p0 &&& (2147483647 : Int32)) (100 : Int32)) + (1 : Int32))).toInt64)) - ((own_f1 ((own_irem (p0 &&& (2147483647 : Int32)) (100 : Int32)) + (1 : Int32)) (q1 &&& (9223372036854775807 : Int64))) * (((own_irem (p0 &&& (2147483647 : Int32)) (100 : Int32)) + (1 : Int32)).toInt64))) (0 : Int64)))])) _
                refine XS.ifNo X1.here hx rfl (hb hby at_140) rfl ((if0 _ _).trans (flt (fun q => hc140_17 ((lw_lt _ _).mp q))).1) ?_
                show Steps p.tables e below (T1.setTop (mkF m 143 #[.val (.int p0), .val (.long q1), .second, .val (.int ((own_irem (p0 &&& (2147483647 : Int32)) (100 : Int32)) + (1 : Int32))), .val (.long (q1 &&& (9223372036854775807 : Int64))), .second, .val (.long (own_f1 ((own_irem (p0 &&& (2147483647 : Int32)) (100 : Int32)) + (1 : Int32)) (q1 &&& (9223372036854775807 : Int64)))), .second, .val (.int ((100 : Int32) - ((own_irem (p0 &&& (2147483647 : Int32)) (100 : Int32)) + (1 : Int32)))), .val (.long ((q1 &&& (9223372036854775807 : Int64)) * (((100 : Int32) - ((own_irem (p0 &&& (2147483647 : Int32)) (100 : Int32)) + (1 : Int32))).toInt64))), .second, .val (.int (0 : Int32)), .val (.long (((q1 &&& (9223372036854775807 : Int64)) * (((100 : Int32) - ((own_irem (p0 &&& (2147483647 : Int32)) (100 : Int32)) + (1 : Int32))).toInt64)) - ((own_f1 ((own_irem (p0 &&& (2147483647 : Int32)) (100 : Int32)) + (1 : Int32)) (q1 &&& (9223372036854775807 : Int64))) * (((own_irem (p0 &&& (2147483647 : Int32)) (100 : Int32)) + (1 : Int32)).toInt64)))), .second] [])) _
                refine XS.lload X1.here hx rfl (hb hby at_143) rfl ?_
                show Steps p.tables e below (T1.setTop (mkF m 145 #[.val (.int p0), .val (.long q1), .second, .val (.int ((own_irem (p0 &&& (2147483647 : Int32)) (100 : Int32)) + (1 : Int32))), .val (.long (q1 &&& (9223372036854775807 : Int64))), .second, .val (.long (own_f1 ((own_irem (p0 &&& (2147483647 : Int32)) (100 : Int32)) + (1 : Int32)) (q1 &&& (9223372036854775807 : Int64)))), .second, .val (.int ((100 : Int32) - ((own_irem (p0 &&& (2147483647 : Int32)) (100 : Int32)) + (1 : Int32)))), .val (.long ((q1 &&& (9223372036854775807 : Int64)) * (((100 : Int32) - ((own_irem (p0 &&& (2147483647 : Int32)) (100 : Int32)) + (1 : Int32))).toInt64))), .second, .val (.int (0 : Int32)), .val (.long (((q1 &&& (9223372036854775807 : Int64)) * (((100 : Int32) - ((own_irem (p0 &&& (2147483647 : Int32)) (100 : Int32)) + (1 : Int32))).toInt64)) - ((own_f1 ((own_irem (p0 &&& (2147483647 : Int32)) (100 : Int32)) + (1 : Int32)) (q1 &&& (9223372036854775807 : Int64))) * (((own_irem (p0 &&& (2147483647 : Int32)) (100 : Int32)) + (1 : Int32)).toInt64)))), .second] [(.long (((q1 &&& (9223372036854775807 : Int64)) * (((100 : Int32) - ((own_irem (p0 &&& (2147483647 : Int32)) (100 : Int32)) + (1 : Int32))).toInt64)) - ((own_f1 ((own_irem (p0 &&& (2147483647 : Int32)) (100 : Int32)) + (1 : Int32)) (q1 &&& (9223372036854775807 : Int64))) * (((own_irem (p0 &&& (2147483647 : Int32)) (100 : Int32)) + (1 : Int32)).toInt64))))])) _
                refine XS.iloadN X1.here hx rfl (hb hby at_145) rfl ?_
                show Steps p.tables e below (T1.setTop (mkF m 146 #[.val (.int p0), .val (.long q1), .second, .val (.int ((own_irem (p0 &&& (2147483647 : Int32)) (100 : Int32)) + (1 : Int32))), .val (.long (q1 &&& (9223372036854775807 : Int64))), .second, .val (.long (own_f1 ((own_irem (p0 &&& (2147483647 : Int32)) (100 : Int32)) + (1 : Int32)) (q1 &&& (9223372036854775807 : Int64)))), .second, .val (.int ((100 : Int32) - ((own_irem (p0 &&& (2147483647 : Int32)) (100 : Int32)) + (1 : Int32)))), .val (.long ((q1 &&& (9223372036854775807 : Int64)) * (((100 : Int32) - ((own_irem (p0 &&& (2147483647 : Int32)) (100 : Int32)) + (1 : Int32))).toInt64))), .second, .val (.int (0 : Int32)), .val (.long (((q1 &&& (9223372036854775807 : Int64)) * (((100 : Int32) - ((own_irem (p0 &&& (2147483647 : Int32)) (100 : Int32)) + (1 : Int32))).toInt64)) - ((own_f1 ((own_irem (p0 &&& (2147483647 : Int32)) (100 : Int32)) + (1 : Int32)) (q1 &&& (9223372036854775807 : Int64))) * (((own_irem (p0 &&& (2147483647 : Int32)) (100 : Int32)) + (1 : Int32)).toInt64)))), .second] [(.int ((own_irem (p0 &&& (2147483647 : Int32)) (100 : Int32)) + (1 : Int32))), (.long (((q1 &&& (9223372036854775807 : Int64)) * (((100 : Int32) - ((own_irem (p0 &&& (2147483647 : Int32)) (100 : Int32)) + (1 : Int32))).toInt64)) - ((own_f1 ((own_irem (p0 &&& (2147483647 : Int32)) (100 : Int32)) + (1 : Int32)) (q1 &&& (9223372036854775807 : Int64))) * (((own_irem (p0 &&& (2147483647 : Int32)) (100 : Int32)) + (1 : Int32)).toInt64))))])) _
                refine XS.i2l X1.here hx rfl (hb hby at_146) rfl ?_
                show Steps p.tables e below (T1.setTop (mkF m 147 #[.val (.int p0), .val (.long q1), .second, .val (.int ((own_irem (p0 &&& (2147483647 : Int32)) (100 : Int32)) + (1 : Int32))), .val (.long (q1 &&& (9223372036854775807 : Int64))), .second, .val (.long (own_f1 ((own_irem (p0 &&& (2147483647 : Int32)) (100 : Int32)) + (1 : Int32)) (q1 &&& (9223372036854775807 : Int64)))), .second, .val (.int ((100 : Int32) - ((own_irem (p0 &&& (2147483647 : Int32)) (100 : Int32)) + (1 : Int32)))), .val (.long ((q1 &&& (9223372036854775807 : Int64)) * (((100 : Int32) - ((own_irem (p0 &&& (2147483647 : Int32)) (100 : Int32)) + (1 : Int32))).toInt64))), .second, .val (.int (0 : Int32)), .val (.long (((q1 &&& (9223372036854775807 : Int64)) * (((100 : Int32) - ((own_irem (p0 &&& (2147483647 : Int32)) (100 : Int32)) + (1 : Int32))).toInt64)) - ((own_f1 ((own_irem (p0 &&& (2147483647 : Int32)) (100 : Int32)) + (1 : Int32)) (q1 &&& (9223372036854775807 : Int64))) * (((own_irem (p0 &&& (2147483647 : Int32)) (100 : Int32)) + (1 : Int32)).toInt64)))), .second] [(.long (((own_irem (p0 &&& (2147483647 : Int32)) (100 : Int32)) + (1 : Int32)).toInt64)), (.long (((q1 &&& (9223372036854775807 : Int64)) * (((100 : Int32) - ((own_irem (p0 &&& (2147483647 : Int32)) (100 : Int32)) + (1 : Int32))).toInt64)) - ((own_f1 ((own_irem (p0 &&& (2147483647 : Int32)) (100 : Int32)) + (1 : Int32)) (q1 &&& (9223372036854775807 : Int64))) * (((own_irem (p0 &&& (2147483647 : Int32)) (100 : Int32)) + (1 : Int32)).toInt64))))])) _
                refine XS.lcmp X1.here hx rfl (hb hby at_147) rfl ?_
                exact k)
              by_cases hc148_19 : (((q1 &&& (9223372036854775807 : Int64)) * (((100 : Int32) - ((own_irem (p0 &&& (2147483647 : Int32)) (100 : Int32)) + (1 : Int32))).toInt64)) - ((own_f1 ((own_irem (p0 &&& (2147483647 : Int32)) (100 : Int32)) + (1 : Int32)) (q1 &&& (9223372036854775807 : Int64))) * (((own_irem (p0 &&& (2147483647 : Int32)) (100 : Int32)) + (1 : Int32)).toInt64))) < (((own_irem (p0 &&& (2147483647 : Int32)) (100 : Int32)) + (1 : Int32)).toInt64)
              · obtain ⟨fs, hr, hrun, hended, hW, hsame⟩ := X1.leave (v := some (.int (1 : Int32))) (fun h => by rw [Bd.returns] at h; cases h)
                refine ⟨_, _, pre18 _ ?_, hrun, hended, _, _, rfl, ?_, ⟨_, rfl⟩, hW, hsame.mono (by decide) (by decide)⟩
                · show Steps p.tables e below (T1.setTop (mkF m 148 #[.val (.int p0), .val (.long q1), .second, .val (.int ((own_irem (p0 &&& (2147483647 : Int32)) (100 : Int32)) + (1 : Int32))), .val (.long (q1 &&& (9223372036854775807 : Int64))), .second, .val (.long (own_f1 ((own_irem (p0 &&& (2147483647 : Int32)) (100 : Int32)) + (1 : Int32)) (q1 &&& (9223372036854775807 : Int64)))), .second, .val (.int ((100 : Int32) - ((own_irem (p0 &&& (2147483647 : Int32)) (100 : Int32)) + (1 : Int32)))), .val (.long ((q1 &&& (9223372036854775807 : Int64)) * (((100 : Int32) - ((own_irem (p0 &&& (2147483647 : Int32)) (100 : Int32)) + (1 : Int32))).toInt64))), .second, .val (.int (0 : Int32)), .val (.long (((q1 &&& (9223372036854775807 : Int64)) * (((100 : Int32) - ((own_irem (p0 &&& (2147483647 : Int32)) (100 : Int32)) + (1 : Int32))).toInt64)) - ((own_f1 ((own_irem (p0 &&& (2147483647 : Int32)) (100 : Int32)) + (1 : Int32)) (q1 &&& (9223372036854775807 : Int64))) * (((own_irem (p0 &&& (2147483647 : Int32)) (100 : Int32)) + (1 : Int32)).toInt64)))), .second] [(.int (lcmpW (((q1 &&& (9223372036854775807 : Int64)) * (((100 : Int32) - ((own_irem (p0 &&& (2147483647 : Int32)) (100 : Int32)) + (1 : Int32))).toInt64)) - ((own_f1 ((own_irem (p0 &&& (2147483647 : Int32)) (100 : Int32)) + (1 : Int32)) (q1 &&& (9223372036854775807 : Int64))) * (((own_irem (p0 &&& (2147483647 : Int32)) (100 : Int32)) + (1 : Int32)).toInt64))) (((own_irem (p0 &&& (2147483647 : Int32)) (100 : Int32)) + (1 : Int32)).toInt64)))])) _
                  refine XS.ifNo X1.here hx rfl (hb hby at_148) rfl ((if0 _ _).trans (tlt ((lw_lt _ _).mpr hc148_19)).2.1) ?_
                  show Steps p.tables e below (T1.setTop (mkF m 151 #[.val (.int p0), .val (.long q1), .second, .val (.int ((own_irem (p0 &&& (2147483647 : Int32)) (100 : Int32)) + (1 : Int32))), .val (.long (q1 &&& (9223372036854775807 : Int64))), .second, .val (.long (own_f1 ((own_irem (p0 &&& (2147483647 : Int32)) (100 : Int32)) + (1 : Int32)) (q1 &&& (9223372036854775807 : Int64)))), .second, .val (.int ((100 : Int32) - ((own_irem (p0 &&& (2147483647 : Int32)) (100 : Int32)) + (1 : Int32)))), .val (.long ((q1 &&& (9223372036854775807 : Int64)) * (((100 : Int32) - ((own_irem (p0 &&& (2147483647 : Int32)) (100 : Int32)) + (1 : Int32))).toInt64))), .second, .val (.int (0 : Int32)), .val (.long (((q1 &&& (9223372036854775807 : Int64)) * (((100 : Int32) - ((own_irem (p0 &&& (2147483647 : Int32)) (100 : Int32)) + (1 : Int32))).toInt64)) - ((own_f1 ((own_irem (p0 &&& (2147483647 : Int32)) (100 : Int32)) + (1 : Int32)) (q1 &&& (9223372036854775807 : Int64))) * (((own_irem (p0 &&& (2147483647 : Int32)) (100 : Int32)) + (1 : Int32)).toInt64)))), .second] [])) _
                  refine XS.iconst X1.here hx rfl (hb hby at_151) ?_
                  show Steps p.tables e below (T1.setTop (mkF m 152 #[.val (.int p0), .val (.long q1), .second, .val (.int ((own_irem (p0 &&& (2147483647 : Int32)) (100 : Int32)) + (1 : Int32))), .val (.long (q1 &&& (9223372036854775807 : Int64))), .second, .val (.long (own_f1 ((own_irem (p0 &&& (2147483647 : Int32)) (100 : Int32)) + (1 : Int32)) (q1 &&& (9223372036854775807 : Int64)))), .second, .val (.int ((100 : Int32) - ((own_irem (p0 &&& (2147483647 : Int32)) (100 : Int32)) + (1 : Int32)))), .val (.long ((q1 &&& (9223372036854775807 : Int64)) * (((100 : Int32) - ((own_irem (p0 &&& (2147483647 : Int32)) (100 : Int32)) + (1 : Int32))).toInt64))), .second, .val (.int (0 : Int32)), .val (.long (((q1 &&& (9223372036854775807 : Int64)) * (((100 : Int32) - ((own_irem (p0 &&& (2147483647 : Int32)) (100 : Int32)) + (1 : Int32))).toInt64)) - ((own_f1 ((own_irem (p0 &&& (2147483647 : Int32)) (100 : Int32)) + (1 : Int32)) (q1 &&& (9223372036854775807 : Int64))) * (((own_irem (p0 &&& (2147483647 : Int32)) (100 : Int32)) + (1 : Int32)).toInt64)))), .second] [(.int (1 : Int32))])) _
                  refine XS.goto X1.here hx rfl (pc0 := 152) (pc' := 156) rfl (hb hby at_152) (by decide) (by decide) ?_
                  show Steps p.tables e below (T1.setTop (mkF m 156 #[.val (.int p0), .val (.long q1), .second, .val (.int ((own_irem (p0 &&& (2147483647 : Int32)) (100 : Int32)) + (1 : Int32))), .val (.long (q1 &&& (9223372036854775807 : Int64))), .second, .val (.long (own_f1 ((own_irem (p0 &&& (2147483647 : Int32)) (100 : Int32)) + (1 : Int32)) (q1 &&& (9223372036854775807 : Int64)))), .second, .val (.int ((100 : Int32) - ((own_irem (p0 &&& (2147483647 : Int32)) (100 : Int32)) + (1 : Int32)))), .val (.long ((q1 &&& (9223372036854775807 : Int64)) * (((100 : Int32) - ((own_irem (p0 &&& (2147483647 : Int32)) (100 : Int32)) + (1 : Int32))).toInt64))), .second, .val (.int (0 : Int32)), .val (.long (((q1 &&& (9223372036854775807 : Int64)) * (((100 : Int32) - ((own_irem (p0 &&& (2147483647 : Int32)) (100 : Int32)) + (1 : Int32))).toInt64)) - ((own_f1 ((own_irem (p0 &&& (2147483647 : Int32)) (100 : Int32)) + (1 : Int32)) (q1 &&& (9223372036854775807 : Int64))) * (((own_irem (p0 &&& (2147483647 : Int32)) (100 : Int32)) + (1 : Int32)).toInt64)))), .second] [(.int (1 : Int32))])) _
                  exact retN X1 hx (t := .boolean) Bd.returns (by simp) (hb hby at_156) hr
                · show rm0Q Z p0 q1 h0 n0 _ T1.heap _
                  rw [e1q]
                  have hres : own_f0 p0 q1 = (1 : Int32) := by
                    simp only [own_f0, if_neg hc33_3, if_neg hc63_7, if_pos hc75_11, if_neg hc109_13, if_neg hc121_15, if_neg hc140_17, if_pos hc148_19]
                  exact ⟨by rw [hres], N1, rfl⟩
              · obtain ⟨fs, hr, hrun, hended, hW, hsame⟩ := X1.leave (v := some (.int (0 : Int32))) (fun h => by rw [Bd.returns] at h; cases h)
                refine ⟨_, _, pre18 _ ?_, hrun, hended, _, _, rfl, ?_, ⟨_, rfl⟩, hW, hsame.mono (by decide) (by decide)⟩
                · show Steps p.tables e below (T1.setTop (mkF m 148 #[.val (.int p0), .val (.long q1), .second, .val (.int ((own_irem (p0 &&& (2147483647 : Int32)) (100 : Int32)) + (1 : Int32))), .val (.long (q1 &&& (9223372036854775807 : Int64))), .second, .val (.long (own_f1 ((own_irem (p0 &&& (2147483647 : Int32)) (100 : Int32)) + (1 : Int32)) (q1 &&& (9223372036854775807 : Int64)))), .second, .val (.int ((100 : Int32) - ((own_irem (p0 &&& (2147483647 : Int32)) (100 : Int32)) + (1 : Int32)))), .val (.long ((q1 &&& (9223372036854775807 : Int64)) * (((100 : Int32) - ((own_irem (p0 &&& (2147483647 : Int32)) (100 : Int32)) + (1 : Int32))).toInt64))), .second, .val (.int (0 : Int32)), .val (.long (((q1 &&& (9223372036854775807 : Int64)) * (((100 : Int32) - ((own_irem (p0 &&& (2147483647 : Int32)) (100 : Int32)) + (1 : Int32))).toInt64)) - ((own_f1 ((own_irem (p0 &&& (2147483647 : Int32)) (100 : Int32)) + (1 : Int32)) (q1 &&& (9223372036854775807 : Int64))) * (((own_irem (p0 &&& (2147483647 : Int32)) (100 : Int32)) + (1 : Int32)).toInt64)))), .second] [(.int (lcmpW (((q1 &&& (9223372036854775807 : Int64)) * (((100 : Int32) - ((own_irem (p0 &&& (2147483647 : Int32)) (100 : Int32)) + (1 : Int32))).toInt64)) - ((own_f1 ((own_irem (p0 &&& (2147483647 : Int32)) (100 : Int32)) + (1 : Int32)) (q1 &&& (9223372036854775807 : Int64))) * (((own_irem (p0 &&& (2147483647 : Int32)) (100 : Int32)) + (1 : Int32)).toInt64))) (((own_irem (p0 &&& (2147483647 : Int32)) (100 : Int32)) + (1 : Int32)).toInt64)))])) _
                  refine XS.ifYes X1.here hx rfl (pc0 := 148) (pc' := 155) rfl (hb hby at_148) rfl ((if0 _ _).trans (flt (fun q => hc148_19 ((lw_lt _ _).mp q))).2.1) (by decide) (by decide) ?_
                  show Steps p.tables e below (T1.setTop (mkF m 155 #[.val (.int p0), .val (.long q1), .second, .val (.int ((own_irem (p0 &&& (2147483647 : Int32)) (100 : Int32)) + (1 : Int32))), .val (.long (q1 &&& (9223372036854775807 : Int64))), .second, .val (.long (own_f1 ((own_irem (p0 &&& (2147483647 : Int32)) (100 : Int32)) + (1 : Int32)) (q1 &&& (9223372036854775807 : Int64)))), .second, .val (.int ((100 : Int32) - ((own_irem (p0 &&& (2147483647 : Int32)) (100 : Int32)) + (1 : Int32)))), .val (.long ((q1 &&& (9223372036854775807 : Int64)) * (((100 : Int32) - ((own_irem (p0 &&& (2147483647 : Int32)) (100 : Int32)) + (1 : Int32))).toInt64))), .second, .val (.int (0 : Int32)), .val (.long (((q1 &&& (9223372036854775807 : Int64)) * (((100 : Int32) - ((own_irem (p0 &&& (2147483647 : Int32)) (100 : Int32)) + (1 : Int32))).toInt64)) - ((own_f1 ((own_irem (p0 &&& (2147483647 : Int32)) (100 : Int32)) + (1 : Int32)) (q1 &&& (9223372036854775807 : Int64))) * (((own_irem (p0 &&& (2147483647 : Int32)) (100 : Int32)) + (1 : Int32)).toInt64)))), .second] [])) _
                  refine XS.iconst X1.here hx rfl (hb hby at_155) ?_
                  show Steps p.tables e below (T1.setTop (mkF m 156 #[.val (.int p0), .val (.long q1), .second, .val (.int ((own_irem (p0 &&& (2147483647 : Int32)) (100 : Int32)) + (1 : Int32))), .val (.long (q1 &&& (9223372036854775807 : Int64))), .second, .val (.long (own_f1 ((own_irem (p0 &&& (2147483647 : Int32)) (100 : Int32)) + (1 : Int32)) (q1 &&& (9223372036854775807 : Int64)))), .second, .val (.int ((100 : Int32) - ((own_irem (p0 &&& (2147483647 : Int32)) (100 : Int32)) + (1 : Int32)))), .val (.long ((q1 &&& (9223372036854775807 : Int64)) * (((100 : Int32) - ((own_irem (p0 &&& (2147483647 : Int32)) (100 : Int32)) + (1 : Int32))).toInt64))), .second, .val (.int (0 : Int32)), .val (.long (((q1 &&& (9223372036854775807 : Int64)) * (((100 : Int32) - ((own_irem (p0 &&& (2147483647 : Int32)) (100 : Int32)) + (1 : Int32))).toInt64)) - ((own_f1 ((own_irem (p0 &&& (2147483647 : Int32)) (100 : Int32)) + (1 : Int32)) (q1 &&& (9223372036854775807 : Int64))) * (((own_irem (p0 &&& (2147483647 : Int32)) (100 : Int32)) + (1 : Int32)).toInt64)))), .second] [(.int (0 : Int32))])) _
                  exact retN X1 hx (t := .boolean) Bd.returns (by simp) (hb hby at_156) hr
                · show rm0Q Z p0 q1 h0 n0 _ T1.heap _
                  rw [e1q]
                  have hres : own_f0 p0 q1 = (0 : Int32) := by
                    simp only [own_f0, if_neg hc33_3, if_neg hc63_7, if_pos hc75_11, if_neg hc109_13, if_neg hc121_15, if_neg hc140_17, if_neg hc148_19]
                  exact ⟨by rw [hres], N1, rfl⟩
      · have pre20 : ∀ t, Steps p.tables e below (T1.setTop (mkF m 96 #[.val (.int p0), .val (.long q1), .second, .val (.int ((own_irem (p0 &&& (2147483647 : Int32)) (100 : Int32)) + (1 : Int32))), .val (.long (q1 &&& (9223372036854775807 : Int64))), .second, .val (.long (own_f1 ((own_irem (p0 &&& (2147483647 : Int32)) (100 : Int32)) + (1 : Int32)) (q1 &&& (9223372036854775807 : Int64)))), .second, .val (.int ((100 : Int32) - ((own_irem (p0 &&& (2147483647 : Int32)) (100 : Int32)) + (1 : Int32)))), .val (.long ((q1 &&& (9223372036854775807 : Int64)) * (((100 : Int32) - ((own_irem (p0 &&& (2147483647 : Int32)) (100 : Int32)) + (1 : Int32))).toInt64))), .second, .val (.int (1 : Int32)), .unset, .unset] [(.int (lcmpW (own_f1 ((own_irem (p0 &&& (2147483647 : Int32)) (100 : Int32)) + (1 : Int32)) (q1 &&& (9223372036854775807 : Int64))) (9223372036854775807 : Int64)))])) t → Steps p.tables e below (s₁.setTop (entryFrame m #[(.int p0), (.long q1)] maxLocals)) t := fun t k => pre10 t (by
          show Steps p.tables e below (T1.setTop (mkF m 75 #[.val (.int p0), .val (.long q1), .second, .val (.int ((own_irem (p0 &&& (2147483647 : Int32)) (100 : Int32)) + (1 : Int32))), .val (.long (q1 &&& (9223372036854775807 : Int64))), .second, .val (.long (own_f1 ((own_irem (p0 &&& (2147483647 : Int32)) (100 : Int32)) + (1 : Int32)) (q1 &&& (9223372036854775807 : Int64)))), .second, .val (.int ((100 : Int32) - ((own_irem (p0 &&& (2147483647 : Int32)) (100 : Int32)) + (1 : Int32)))), .val (.long ((q1 &&& (9223372036854775807 : Int64)) * (((100 : Int32) - ((own_irem (p0 &&& (2147483647 : Int32)) (100 : Int32)) + (1 : Int32))).toInt64))), .second, .unset, .unset, .unset] [(.int (lcmpW (((q1 &&& (9223372036854775807 : Int64)) * (((100 : Int32) - ((own_irem (p0 &&& (2147483647 : Int32)) (100 : Int32)) + (1 : Int32))).toInt64)) / (((100 : Int32) - ((own_irem (p0 &&& (2147483647 : Int32)) (100 : Int32)) + (1 : Int32))).toInt64)) (q1 &&& (9223372036854775807 : Int64))))])) _
          refine XS.ifNo X1.here hx rfl (hb hby at_75) rfl ((if0 _ _).trans (feq (fun q => hc75_11 ((lw_eq _ _).mp q))).1) ?_
          show Steps p.tables e below (T1.setTop (mkF m 78 #[.val (.int p0), .val (.long q1), .second, .val (.int ((own_irem (p0 &&& (2147483647 : Int32)) (100 : Int32)) + (1 : Int32))), .val (.long (q1 &&& (9223372036854775807 : Int64))), .second, .val (.long (own_f1 ((own_irem (p0 &&& (2147483647 : Int32)) (100 : Int32)) + (1 : Int32)) (q1 &&& (9223372036854775807 : Int64)))), .second, .val (.int ((100 : Int32) - ((own_irem (p0 &&& (2147483647 : Int32)) (100 : Int32)) + (1 : Int32)))), .val (.long ((q1 &&& (9223372036854775807 : Int64)) * (((100 : Int32) - ((own_irem (p0 &&& (2147483647 : Int32)) (100 : Int32)) + (1 : Int32))).toInt64))), .second, .unset, .unset, .unset] [])) _
          refine XS.iconst X1.here hx rfl (hb hby at_78) ?_
          show Steps p.tables e below (T1.setTop (mkF m 79 #[.val (.int p0), .val (.long q1), .second, .val (.int ((own_irem (p0 &&& (2147483647 : Int32)) (100 : Int32)) + (1 : Int32))), .val (.long (q1 &&& (9223372036854775807 : Int64))), .second, .val (.long (own_f1 ((own_irem (p0 &&& (2147483647 : Int32)) (100 : Int32)) + (1 : Int32)) (q1 &&& (9223372036854775807 : Int64)))), .second, .val (.int ((100 : Int32) - ((own_irem (p0 &&& (2147483647 : Int32)) (100 : Int32)) + (1 : Int32)))), .val (.long ((q1 &&& (9223372036854775807 : Int64)) * (((100 : Int32) - ((own_irem (p0 &&& (2147483647 : Int32)) (100 : Int32)) + (1 : Int32))).toInt64))), .second, .unset, .unset, .unset] [(.int (1 : Int32))])) _
          refine XS.goto X1.here hx rfl (pc0 := 79) (pc' := 83) rfl (hb hby at_79) (by decide) (by decide) ?_
          show Steps p.tables e below (T1.setTop (mkF m 83 #[.val (.int p0), .val (.long q1), .second, .val (.int ((own_irem (p0 &&& (2147483647 : Int32)) (100 : Int32)) + (1 : Int32))), .val (.long (q1 &&& (9223372036854775807 : Int64))), .second, .val (.long (own_f1 ((own_irem (p0 &&& (2147483647 : Int32)) (100 : Int32)) + (1 : Int32)) (q1 &&& (9223372036854775807 : Int64)))), .second, .val (.int ((100 : Int32) - ((own_irem (p0 &&& (2147483647 : Int32)) (100 : Int32)) + (1 : Int32)))), .val (.long ((q1 &&& (9223372036854775807 : Int64)) * (((100 : Int32) - ((own_irem (p0 &&& (2147483647 : Int32)) (100 : Int32)) + (1 : Int32))).toInt64))), .second, .unset, .unset, .unset] [(.int (1 : Int32))])) _
          refine XS.istore X1.here hx rfl (hb hby at_83) rfl (l' := #[.val (.int p0), .val (.long q1), .second, .val (.int ((own_irem (p0 &&& (2147483647 : Int32)) (100 : Int32)) + (1 : Int32))), .val (.long (q1 &&& (9223372036854775807 : Int64))), .second, .val (.long (own_f1 ((own_irem (p0 &&& (2147483647 : Int32)) (100 : Int32)) + (1 : Int32)) (q1 &&& (9223372036854775807 : Int64)))), .second, .val (.int ((100 : Int32) - ((own_irem (p0 &&& (2147483647 : Int32)) (100 : Int32)) + (1 : Int32)))), .val (.long ((q1 &&& (9223372036854775807 : Int64)) * (((100 : Int32) - ((own_irem (p0 &&& (2147483647 : Int32)) (100 : Int32)) + (1 : Int32))).toInt64))), .second, .val (.int (1 : Int32)), .unset, .unset]) rfl ?_
          show Steps p.tables e below (T1.setTop (mkF m 85 #[.val (.int p0), .val (.long q1), .second, .val (.int ((own_irem (p0 &&& (2147483647 : Int32)) (100 : Int32)) + (1 : Int32))), .val (.long (q1 &&& (9223372036854775807 : Int64))), .second, .val (.long (own_f1 ((own_irem (p0 &&& (2147483647 : Int32)) (100 : Int32)) + (1 : Int32)) (q1 &&& (9223372036854775807 : Int64)))), .second, .val (.int ((100 : Int32) - ((own_irem (p0 &&& (2147483647 : Int32)) (100 : Int32)) + (1 : Int32)))), .val (.long ((q1 &&& (9223372036854775807 : Int64)) * (((100 : Int32) - ((own_irem (p0 &&& (2147483647 : Int32)) (100 : Int32)) + (1 : Int32))).toInt64))), .second, .val (.int (1 : Int32)), .unset, .unset] [])) _
          refine XS.iload X1.here hx rfl (hb hby at_85) rfl ?_
          show Steps p.tables e below (T1.setTop (mkF m 87 #[.val (.int p0), .val (.long q1), .second, .val (.int ((own_irem (p0 &&& (2147483647 : Int32)) (100 : Int32)) + (1 : Int32))), .val (.long (q1 &&& (9223372036854775807 : Int64))), .second, .val (.long (own_f1 ((own_irem (p0 &&& (2147483647 : Int32)) (100 : Int32)) + (1 : Int32)) (q1 &&& (9223372036854775807 : Int64)))), .second, .val (.int ((100 : Int32) - ((own_irem (p0 &&& (2147483647 : Int32)) (100 : Int32)) + (1 : Int32)))), .val (.long ((q1 &&& (9223372036854775807 : Int64)) * (((100 : Int32) - ((own_irem (p0 &&& (2147483647 : Int32)) (100 : Int32)) + (1 : Int32))).toInt64))), .second, .val (.int (1 : Int32)), .unset, .unset] [(.int (1 : Int32))])) _
          refine XS.ifNo X1.here hx rfl (hb hby at_87) rfl ((if0 _ _).trans (feq ((by decide) : ¬ ((1 : Int32) = (0 : Int32)))).1) ?_
          show Steps p.tables e below (T1.setTop (mkF m 90 #[.val (.int p0), .val (.long q1), .second, .val (.int ((own_irem (p0 &&& (2147483647 : Int32)) (100 : Int32)) + (1 : Int32))), .val (.long (q1 &&& (9223372036854775807 : Int64))), .second, .val (.long (own_f1 ((own_irem (p0 &&& (2147483647 : Int32)) (100 : Int32)) + (1 : Int32)) (q1 &&& (9223372036854775807 : Int64)))), .second, .val (.int ((100 : Int32) - ((own_irem (p0 &&& (2147483647 : Int32)) (100 : Int32)) + (1 : Int32)))), .val (.long ((q1 &&& (9223372036854775807 : Int64)) * (((100 : Int32) - ((own_irem (p0 &&& (2147483647 : Int32)) (100 : Int32)) + (1 : Int32))).toInt64))), .second, .val (.int (1 : Int32)), .unset, .unset] [])) _
          refine XS.lload X1.here hx rfl (hb hby at_90) rfl ?_
          show Steps p.tables e below (T1.setTop (mkF m 92 #[.val (.int p0), .val (.long q1), .second, .val (.int ((own_irem (p0 &&& (2147483647 : Int32)) (100 : Int32)) + (1 : Int32))), .val (.long (q1 &&& (9223372036854775807 : Int64))), .second, .val (.long (own_f1 ((own_irem (p0 &&& (2147483647 : Int32)) (100 : Int32)) + (1 : Int32)) (q1 &&& (9223372036854775807 : Int64)))), .second, .val (.int ((100 : Int32) - ((own_irem (p0 &&& (2147483647 : Int32)) (100 : Int32)) + (1 : Int32)))), .val (.long ((q1 &&& (9223372036854775807 : Int64)) * (((100 : Int32) - ((own_irem (p0 &&& (2147483647 : Int32)) (100 : Int32)) + (1 : Int32))).toInt64))), .second, .val (.int (1 : Int32)), .unset, .unset] [(.long (own_f1 ((own_irem (p0 &&& (2147483647 : Int32)) (100 : Int32)) + (1 : Int32)) (q1 &&& (9223372036854775807 : Int64))))])) _
          refine X1.ldc2Long hx hown (mvT hZ (hw _ (List.mem_of_getElem? (i := 1) rfl))) (g := (mkF m 92 #[.val (.int p0), .val (.long q1), .second, .val (.int ((own_irem (p0 &&& (2147483647 : Int32)) (100 : Int32)) + (1 : Int32))), .val (.long (q1 &&& (9223372036854775807 : Int64))), .second, .val (.long (own_f1 ((own_irem (p0 &&& (2147483647 : Int32)) (100 : Int32)) + (1 : Int32)) (q1 &&& (9223372036854775807 : Int64)))), .second, .val (.int ((100 : Int32) - ((own_irem (p0 &&& (2147483647 : Int32)) (100 : Int32)) + (1 : Int32)))), .val (.long ((q1 &&& (9223372036854775807 : Int64)) * (((100 : Int32) - ((own_irem (p0 &&& (2147483647 : Int32)) (100 : Int32)) + (1 : Int32))).toInt64))), .second, .val (.int (1 : Int32)), .unset, .unset] [(.long (own_f1 ((own_irem (p0 &&& (2147483647 : Int32)) (100 : Int32)) + (1 : Int32)) (q1 &&& (9223372036854775807 : Int64))))])) rfl (hb hby at_92) _ ?_
          show Steps p.tables e below (T1.setTop (mkF m 95 #[.val (.int p0), .val (.long q1), .second, .val (.int ((own_irem (p0 &&& (2147483647 : Int32)) (100 : Int32)) + (1 : Int32))), .val (.long (q1 &&& (9223372036854775807 : Int64))), .second, .val (.long (own_f1 ((own_irem (p0 &&& (2147483647 : Int32)) (100 : Int32)) + (1 : Int32)) (q1 &&& (9223372036854775807 : Int64)))), .second, .val (.int ((100 : Int32) - ((own_irem (p0 &&& (2147483647 : Int32)) (100 : Int32)) + (1 : Int32)))), .val (.long ((q1 &&& (9223372036854775807 : Int64)) * (((100 : Int32) - ((own_irem (p0 &&& (2147483647 : Int32)) (100 : Int32)) + (1 : Int32))).toInt64))), .second, .val (.int (1 : Int32)), .unset, .unset] [(.long (9223372036854775807 : Int64)), (.long (own_f1 ((own_irem (p0 &&& (2147483647 : Int32)) (100 : Int32)) + (1 : Int32)) (q1 &&& (9223372036854775807 : Int64))))])) _
          refine XS.lcmp X1.here hx rfl (hb hby at_95) rfl ?_
          exact k)
        by_cases hc96_21 : (own_f1 ((own_irem (p0 &&& (2147483647 : Int32)) (100 : Int32)) + (1 : Int32)) (q1 &&& (9223372036854775807 : Int64))) = (9223372036854775807 : Int64)
        · obtain ⟨fs, hr, hrun, hended, hW, hsame⟩ := X1.leave (v := some (.int (1 : Int32))) (fun h => by rw [Bd.returns] at h; cases h)
          refine ⟨_, _, pre20 _ ?_, hrun, hended, _, _, rfl, ?_, ⟨_, rfl⟩, hW, hsame.mono (by decide) (by decide)⟩
          · show Steps p.tables e below (T1.setTop (mkF m 96 #[.val (.int p0), .val (.long q1), .second, .val (.int ((own_irem (p0 &&& (2147483647 : Int32)) (100 : Int32)) + (1 : Int32))), .val (.long (q1 &&& (9223372036854775807 : Int64))), .second, .val (.long (own_f1 ((own_irem (p0 &&& (2147483647 : Int32)) (100 : Int32)) + (1 : Int32)) (q1 &&& (9223372036854775807 : Int64)))), .second, .val (.int ((100 : Int32) - ((own_irem (p0 &&& (2147483647 : Int32)) (100 : Int32)) + (1 : Int32)))), .val (.long ((q1 &&& (9223372036854775807 : Int64)) * (((100 : Int32) - ((own_irem (p0 &&& (2147483647 : Int32)) (100 : Int32)) + (1 : Int32))).toInt64))), .second, .val (.int (1 : Int32)), .unset, .unset] [(.int (lcmpW (own_f1 ((own_irem (p0 &&& (2147483647 : Int32)) (100 : Int32)) + (1 : Int32)) (q1 &&& (9223372036854775807 : Int64))) (9223372036854775807 : Int64)))])) _
            refine XS.ifNo X1.here hx rfl (hb hby at_96) rfl ((if0 _ _).trans (teq ((lw_eq _ _).mpr hc96_21)).2) ?_
            show Steps p.tables e below (T1.setTop (mkF m 99 #[.val (.int p0), .val (.long q1), .second, .val (.int ((own_irem (p0 &&& (2147483647 : Int32)) (100 : Int32)) + (1 : Int32))), .val (.long (q1 &&& (9223372036854775807 : Int64))), .second, .val (.long (own_f1 ((own_irem (p0 &&& (2147483647 : Int32)) (100 : Int32)) + (1 : Int32)) (q1 &&& (9223372036854775807 : Int64)))), .second, .val (.int ((100 : Int32) - ((own_irem (p0 &&& (2147483647 : Int32)) (100 : Int32)) + (1 : Int32)))), .val (.long ((q1 &&& (9223372036854775807 : Int64)) * (((100 : Int32) - ((own_irem (p0 &&& (2147483647 : Int32)) (100 : Int32)) + (1 : Int32))).toInt64))), .second, .val (.int (1 : Int32)), .unset, .unset] [])) _
            refine XS.iconst X1.here hx rfl (hb hby at_99) ?_
            show Steps p.tables e below (T1.setTop (mkF m 100 #[.val (.int p0), .val (.long q1), .second, .val (.int ((own_irem (p0 &&& (2147483647 : Int32)) (100 : Int32)) + (1 : Int32))), .val (.long (q1 &&& (9223372036854775807 : Int64))), .second, .val (.long (own_f1 ((own_irem (p0 &&& (2147483647 : Int32)) (100 : Int32)) + (1 : Int32)) (q1 &&& (9223372036854775807 : Int64)))), .second, .val (.int ((100 : Int32) - ((own_irem (p0 &&& (2147483647 : Int32)) (100 : Int32)) + (1 : Int32)))), .val (.long ((q1 &&& (9223372036854775807 : Int64)) * (((100 : Int32) - ((own_irem (p0 &&& (2147483647 : Int32)) (100 : Int32)) + (1 : Int32))).toInt64))), .second, .val (.int (1 : Int32)), .unset, .unset] [(.int (1 : Int32))])) _
            refine XS.goto X1.here hx rfl (pc0 := 100) (pc' := 104) rfl (hb hby at_100) (by decide) (by decide) ?_
            show Steps p.tables e below (T1.setTop (mkF m 104 #[.val (.int p0), .val (.long q1), .second, .val (.int ((own_irem (p0 &&& (2147483647 : Int32)) (100 : Int32)) + (1 : Int32))), .val (.long (q1 &&& (9223372036854775807 : Int64))), .second, .val (.long (own_f1 ((own_irem (p0 &&& (2147483647 : Int32)) (100 : Int32)) + (1 : Int32)) (q1 &&& (9223372036854775807 : Int64)))), .second, .val (.int ((100 : Int32) - ((own_irem (p0 &&& (2147483647 : Int32)) (100 : Int32)) + (1 : Int32)))), .val (.long ((q1 &&& (9223372036854775807 : Int64)) * (((100 : Int32) - ((own_irem (p0 &&& (2147483647 : Int32)) (100 : Int32)) + (1 : Int32))).toInt64))), .second, .val (.int (1 : Int32)), .unset, .unset] [(.int (1 : Int32))])) _
            exact retN X1 hx (t := .boolean) Bd.returns (by simp) (hb hby at_104) hr
          · show rm0Q Z p0 q1 h0 n0 _ T1.heap _
            rw [e1q]
            have hres : own_f0 p0 q1 = (1 : Int32) := by
              simp only [own_f0, if_neg hc33_3, if_neg hc63_7, if_neg hc75_11, if_pos hc96_21]
            exact ⟨by rw [hres], N1, rfl⟩
        · obtain ⟨fs, hr, hrun, hended, hW, hsame⟩ := X1.leave (v := some (.int (0 : Int32))) (fun h => by rw [Bd.returns] at h; cases h)
          refine ⟨_, _, pre20 _ ?_, hrun, hended, _, _, rfl, ?_, ⟨_, rfl⟩, hW, hsame.mono (by decide) (by decide)⟩
          · show Steps p.tables e below (T1.setTop (mkF m 96 #[.val (.int p0), .val (.long q1), .second, .val (.int ((own_irem (p0 &&& (2147483647 : Int32)) (100 : Int32)) + (1 : Int32))), .val (.long (q1 &&& (9223372036854775807 : Int64))), .second, .val (.long (own_f1 ((own_irem (p0 &&& (2147483647 : Int32)) (100 : Int32)) + (1 : Int32)) (q1 &&& (9223372036854775807 : Int64)))), .second, .val (.int ((100 : Int32) - ((own_irem (p0 &&& (2147483647 : Int32)) (100 : Int32)) + (1 : Int32)))), .val (.long ((q1 &&& (9223372036854775807 : Int64)) * (((100 : Int32) - ((own_irem (p0 &&& (2147483647 : Int32)) (100 : Int32)) + (1 : Int32))).toInt64))), .second, .val (.int (1 : Int32)), .unset, .unset] [(.int (lcmpW (own_f1 ((own_irem (p0 &&& (2147483647 : Int32)) (100 : Int32)) + (1 : Int32)) (q1 &&& (9223372036854775807 : Int64))) (9223372036854775807 : Int64)))])) _
            refine XS.ifYes X1.here hx rfl (pc0 := 96) (pc' := 103) rfl (hb hby at_96) rfl ((if0 _ _).trans (feq (fun q => hc96_21 ((lw_eq _ _).mp q))).2) (by decide) (by decide) ?_
            show Steps p.tables e below (T1.setTop (mkF m 103 #[.val (.int p0), .val (.long q1), .second, .val (.int ((own_irem (p0 &&& (2147483647 : Int32)) (100 : Int32)) + (1 : Int32))), .val (.long (q1 &&& (9223372036854775807 : Int64))), .second, .val (.long (own_f1 ((own_irem (p0 &&& (2147483647 : Int32)) (100 : Int32)) + (1 : Int32)) (q1 &&& (9223372036854775807 : Int64)))), .second, .val (.int ((100 : Int32) - ((own_irem (p0 &&& (2147483647 : Int32)) (100 : Int32)) + (1 : Int32)))), .val (.long ((q1 &&& (9223372036854775807 : Int64)) * (((100 : Int32) - ((own_irem (p0 &&& (2147483647 : Int32)) (100 : Int32)) + (1 : Int32))).toInt64))), .second, .val (.int (1 : Int32)), .unset, .unset] [])) _
            refine XS.iconst X1.here hx rfl (hb hby at_103) ?_
            show Steps p.tables e below (T1.setTop (mkF m 104 #[.val (.int p0), .val (.long q1), .second, .val (.int ((own_irem (p0 &&& (2147483647 : Int32)) (100 : Int32)) + (1 : Int32))), .val (.long (q1 &&& (9223372036854775807 : Int64))), .second, .val (.long (own_f1 ((own_irem (p0 &&& (2147483647 : Int32)) (100 : Int32)) + (1 : Int32)) (q1 &&& (9223372036854775807 : Int64)))), .second, .val (.int ((100 : Int32) - ((own_irem (p0 &&& (2147483647 : Int32)) (100 : Int32)) + (1 : Int32)))), .val (.long ((q1 &&& (9223372036854775807 : Int64)) * (((100 : Int32) - ((own_irem (p0 &&& (2147483647 : Int32)) (100 : Int32)) + (1 : Int32))).toInt64))), .second, .val (.int (1 : Int32)), .unset, .unset] [(.int (0 : Int32))])) _
            exact retN X1 hx (t := .boolean) Bd.returns (by simp) (hb hby at_104) hr
          · show rm0Q Z p0 q1 h0 n0 _ T1.heap _
            rw [e1q]
            have hres : own_f0 p0 q1 = (0 : Int32) := by
              simp only [own_f0, if_neg hc33_3, if_neg hc63_7, if_neg hc75_11, if_neg hc96_21]
            exact ⟨by rw [hres], N1, rfl⟩
def own_g (R : Int32) (B : Int64) : Int32 :=
  if ((100 : Int32) - R) = (0 : Int32) then (if (own_f1 R B) = (9223372036854775807 : Int64) then (1 : Int32)
    else (0 : Int32))
  else (if (B * (((100 : Int32) - R).toInt64)) < (0 : Int64) then (if (own_f1 R B) = (9223372036854775807 : Int64) then (1 : Int32)
    else (0 : Int32))
  else (if ((B * (((100 : Int32) - R).toInt64)) / (((100 : Int32) - R).toInt64)) = B then (if (own_f1 R B) < (0 : Int64) then (0 : Int32)
    else (if ((9223372036854775807 : Int64) / (R.toInt64)) < (own_f1 R B) then (0 : Int32)
    else (if ((B * (((100 : Int32) - R).toInt64)) - ((own_f1 R B) * (R.toInt64))) < (0 : Int64) then (0 : Int32)
    else (if ((B * (((100 : Int32) - R).toInt64)) - ((own_f1 R B) * (R.toInt64))) < (R.toInt64) then (1 : Int32)
    else (0 : Int32)))))
  else (if (own_f1 R B) = (9223372036854775807 : Int64) then (1 : Int32)
  else (0 : Int32))))
theorem own_core (R : Int32) (B : Int64) (h1 : 1 ≤ R.toInt) (h2 : R.toInt ≤ 100) (h3 : 0 ≤ B.toInt) : own_g R B = 1 := by
  have lM : (9223372036854775807 : Int64).toInt = 9223372036854775807 := by decide
  have l0 : (0 : Int64).toInt = 0 := by decide
  have hS : ((100 : Int32) - R).toInt = 100 - R.toInt := by
    have e1 := c_isub 100 R
    have r1 := rng32 ((100 : Int32) - R)
    rw [show (100 : Int32).toInt = 100 by decide] at e1
    omega
  unfold own_g
  by_cases c0 : ((100 : Int32) - R) = (0 : Int32)
  · rw [if_pos c0, if_pos]
    unfold own_f1; rw [if_pos c0]
  · rw [if_neg c0]
    have hs0 : ((100 : Int32) - R).toInt64.toInt = 100 - R.toInt := by rw [c_i2l, hS]
    have hs1 : 100 - R.toInt ≠ 0 := fun q => c0 (Int32.toInt_inj.mp (by rw [hS, q]; decide))
    have hr0 : R.toInt64.toInt = R.toInt := c_i2l R
    have hf : own_f1 R B = (if ((9223372036854775807 : Int64) / (((100 : Int32) - R).toInt64)) < B then (9223372036854775807 : Int64) else ((B * (((100 : Int32) - R).toInt64)) / (R.toInt64))) := by
      unfold own_f1; rw [if_neg c0]
    have hsz : 0 ≤ 100 - R.toInt := by omega
    clear c0 hS
    generalize ((100 : Int32) - R).toInt64 = s at *
    generalize R.toInt64 = r at *
    generalize 100 - R.toInt = sz at *
    generalize hrz : R.toInt = rz at *
    have hs2 : 1 ≤ sz := by omega
    have hsn : s ≠ -1 := fun q => by rw [q] at hs0; exact absurd hs0 (by rw [show (-1 : Int64).toInt = -1 by decide]; omega)
    have hrn : r ≠ -1 := fun q => by rw [q] at hr0; exact absurd hr0 (by rw [show (-1 : Int64).toInt = -1 by decide]; omega)
    have hD : ((9223372036854775807 : Int64) / s).toInt = 9223372036854775807 / sz := by
      rw [(c_ldiv 9223372036854775807 s sz hs0 hsn).1 (by decide), lM]
    have hP := c_lmul B s
    rw [hs0] at hP
    have rP := rng64 (B * s)
    have hq := c_ldiv (B * s) s sz hs0 hsn
    have mulA : (9223372036854775807 / sz) * sz ≤ 9223372036854775807 := Int.ediv_mul_le _ (by omega)
    by_cases c1 : ((9223372036854775807 : Int64) / s) < B
    · rw [if_pos c1] at hf
      rw [hf]
      by_cases c2 : (B * s) < (0 : Int64)
      · rw [if_pos c2, if_pos rfl]
      · rw [if_neg c2]
        rw [Int64.lt_iff_toInt_lt, l0] at c2
        have c3 : ¬ ((B * s) / s) = B := by
          intro q
          have q1 := congrArg Int64.toInt q
          rw [hq.1 (by omega)] at q1
          rw [Int64.lt_iff_toInt_lt, hD, ← q1] at c1
          have q2 : (B * s).toInt / sz ≤ 9223372036854775807 / sz := Int.ediv_le_ediv (by omega) (by omega)
          omega
        rw [if_neg c3, if_pos rfl]
    · rw [if_neg c1] at hf
      rw [Int64.lt_iff_toInt_lt, hD] at c1
      have m1 : B.toInt * sz ≤ (9223372036854775807 / sz) * sz := Int.mul_le_mul_of_nonneg_right (by omega) (by omega)
      have m2 : 0 ≤ B.toInt * sz := Int.mul_nonneg h3 (by omega)
      have hPe : (B * s).toInt = B.toInt * sz := by
        generalize B.toInt * sz = z at *
        omega
      have c2 : ¬ (B * s) < (0 : Int64) := by rw [Int64.lt_iff_toInt_lt, l0]; omega
      have c3 : ((B * s) / s) = B := by
        apply Int64.toInt_inj.mp
        rw [hq.1 (by omega), hPe, Int.mul_ediv_cancel _ hs1]
      rw [if_neg c2, if_pos c3, hf]
      have hp0 : 0 ≤ (B * s).toInt := by omega
      have hpM : (B * s).toInt ≤ 9223372036854775807 := by omega
      clear hf c3 c2 hPe m1 m2 c1 mulA hq hP rP hD
      generalize B * s = P at *
      have hQ : (P / r).toInt = P.toInt / rz := (c_ldiv P r rz hr0 hrn).1 hp0
      have hQ0 : 0 ≤ P.toInt / rz := Int.ediv_nonneg hp0 (by omega)
      have hMr : ((9223372036854775807 : Int64) / r).toInt = 9223372036854775807 / rz := by
        rw [(c_ldiv 9223372036854775807 r rz hr0 hrn).1 (by decide), lM]
      have hQM : P.toInt / rz ≤ 9223372036854775807 / rz := Int.ediv_le_ediv (by omega) hpM
      have hmul := c_lmul (P / r) r
      rw [hQ, hr0] at hmul
      have rmul := rng64 ((P / r) * r)
      have hle : P.toInt / rz * rz ≤ P.toInt := Int.ediv_mul_le _ (by omega)
      have hge : 0 ≤ P.toInt / rz * rz := Int.mul_nonneg hQ0 (by omega)
      have hrem : P.toInt - P.toInt / rz * rz < rz := by
        have e1 := Int.emod_def P.toInt rz
        have e2 := Int.emod_lt_of_pos P.toInt (show 0 < rz by omega)
        rw [Int.mul_comm] at e1
        omega
      have hm2 : ((P / r) * r).toInt = P.toInt / rz * rz := by
        generalize P.toInt / rz * rz = z at *
        omega
      have hsub := c_lsub P ((P / r) * r)
      have rsub := rng64 (P - (P / r) * r)
      rw [hm2] at hsub
      have hs3 : (P - (P / r) * r).toInt = P.toInt - P.toInt / rz * rz := by
        generalize P.toInt / rz * rz = z at *
        omega
      have a1 : ¬ (P / r) < (0 : Int64) := by rw [Int64.lt_iff_toInt_lt, l0, hQ]; omega
      have a2 : ¬ ((9223372036854775807 : Int64) / r) < (P / r) := by rw [Int64.lt_iff_toInt_lt, hQ, hMr]; omega
      have a3 : ¬ (P - (P / r) * r) < (0 : Int64) := by rw [Int64.lt_iff_toInt_lt, l0, hs3]; omega
      have a4 : (P - (P / r) * r) < r := by rw [Int64.lt_iff_toInt_lt, hs3, hr0]; omega
      rw [if_neg a1, if_neg a2, if_neg a3, if_pos a4]
theorem own_law (a : Int32) (b : Int64) : own_f0 a b = 1 := by
  have e : own_f0 a b = own_g ((own_irem (a &&& (2147483647 : Int32)) (100 : Int32)) + (1 : Int32)) (b &&& (9223372036854775807 : Int64)) := rfl
  rw [e]
  refine own_core _ _ (own_ratio a).1 (own_ratio a).2 ?_
  rw [c_maskL b 9223372036854775807 63 (by decide) (by decide)]
  omega

set_option maxRecDepth 65536 in
set_option maxHeartbeats 40000000 in
theorem comes_1 {Post : Tables → Env → Array Value → State → Outcome → State → Prop} (hpost : ∀ tb e args s v u, (limb_1_1.after args s (.returned v) u = true ∧ limb_1_2.after args s (.returned v) u = true ∧ True) → FrameEnd s (.returned v) u (Jvm.fieldLocs frame_1_writes args s ++ Jvm.arrayLocs frame_1_arrays args s ++ Jvm.staticLocs frame_1_statics s) 0 0 → Post tb e args s (.returned v) u) :
    ArmFor flags0 classFile x code maxLocals ret World_1 tables_1 room_1 Calls_1 rest_1 Pre_1 Post := by
  intro l hfl _ _ p e ha hc hk s m args below hf hA hF happ hP
  obtain ⟨hcalls, hrest, hpre⟩ := hP
  obtain ⟨-, -, -, hnamed, -, -, -, hat⟩ := (Spec.applies_iff hf).mp happ
  obtain ⟨hg, hn⟩ := and_e (Cond.before_iff.mp (show (Jvm.Cond.and given_1 narrow_1).before args s = true from hpre))
  obtain ⟨g1, g2⟩ := and_e hg
  obtain ⟨g3, g4⟩ := and_e g2
  obtain ⟨w0, w1, rfl⟩ : ∃ w0 w1 : Value, args = #[w0, w1] := by
    have hs : args.size = 2 := by simpa [Cond.value, given_1] using g1
    obtain ⟨L⟩ := args
    match L, hs with
    | [w0, w1], _ => exact ⟨w0, w1, rfl⟩
  have hw := fun d (hd : d ∈ tables_1) => atoms_spec (ws := Jvm.Cond.code x code maxLocals ret :: tables_1) hat d (List.mem_cons_of_mem _ hd)
  have hfit : Fit s := fun {y c} hc i hi => by
    obtain ⟨ha, rfl⟩ := Array.getElem?_eq_some_iff.mp hc
    have q := List.all_eq_true.mp ((Array.all_eq_true_iff_forall_mem.mp hF) _ (Array.getElem_mem ha)) i (List.mem_range.mpr hi)
    simpa [Array.getElem?_eq_getElem hi] using q
  obtain ⟨i0, ei0⟩ := is_v g3
  obtain rfl : w0 = (.int i0) := Option.some.inj ei0
  obtain ⟨i1, ei1⟩ := isL_v g4
  obtain rfl : w1 = (.long i1) := Option.some.inj ei1
  obtain ⟨n, o, h1, h2, h3, _, L, rfl, ⟨hv, N, -⟩, hq⟩ := rm0 l s _ hw tables_1 i0 i1 s.heap s.heap.size (Nat.le_refl _) p e ha hc hk s m _ below hf ((Spec.applies_iff_loose hf).mp happ).1 ⟨rfl, State.Warmed39.refl s, rfl⟩ trivial
  rw [own_law i0 i1] at hv
  subst hv
  refine ⟨n, _, h1, h2, h3, hpost _ _ _ _ _ _ ⟨Cond.after_iff.mpr rfl, Cond.after_iff.mpr (eq_i res_at (Term.int_eval (1)) rfl), trivial⟩ ⟨hq.1, hq.2.1, (hq.2.2.sift fun y hy => Or.inr (N y hy)).mono (by decide) (by decide)⟩⟩
theorem main_1_1 : Claimed_1_1 := comes_1 fun _ _ _ _ _ _ h hF => ⟨h.1, hF⟩
theorem main_1_2 : Claimed_1_2 := comes_1 fun _ _ _ _ _ _ h hF => ⟨h.2.1, hF⟩
end Jvm.Pilot.@@N@@
namespace Jvm.Pilot.@@N@@
open Jvm Jvm.ClassFile Sem Op Lib Jvm.Free Jvm.Stand Jvm.Pilot.@@N@@.Jvm.D
/-! MADE BY PROGRAM (witnessworld.py) out of the Statement's table words and the real class files: 7 classes; the members and pool entries that the words name. The judged class is class 1, her method 1. -/
namespace start1
open Jvm.ClassFile
def u (s : String) : CpInfo := .utf8 (stringToUtf16 s)
/-- a pool by its gaps: so many unusable entries, then the entry; so many at the end -/
def gap : Nat → List CpInfo → List CpInfo
  | 0, r => r
  | n + 1, r => .unusable :: gap n r
def poolList (es : List (Nat × CpInfo)) (last : Nat) : List CpInfo := es.foldr (fun e r => gap e.1 (e.2 :: r)) (gap last [])
def pool (es : List (Nat × CpInfo)) (last : Nat) : Array CpInfo := ⟨poolList es last⟩
def fileOf (pool : Array CpInfo) (this : Nat) (attrs : Array Attribute := #[]) (ms : Array MethodInfo := #[]) (fl : Nat := 33) (sup : Nat := 0) (ifs : Array Nat := #[]) (fds : Array FieldInfo := #[]) : ClassFile where
  minorVersion := 0
  majorVersion := 65
  constantPool := pool
  accessFlags := fl
  thisClass := this
  superClass := sup
  interfaces := ifs
  fields := fds
  methods := ms
  attributes := attrs
def plain (name : String) (sup : Option ClassId) : Class where
  name := name
  kind := .ordinary
  loader := none
  accessFlags := 33
  super := sup
  interfaces := #[]
  cf := none
  fields := #[]
  methods := #[]
  instanceTypes := #[]
  staticTypes := #[]
  resolved := #[]
  callSites := []
  init := .initialized
  statics := none
  mirror := none

def pool0 : Array CpInfo := pool [(5, u "<init>"), (0, u "()V"), (1, .class_ 10), (1, u "java/lang/Object")] 113

def k0m0 : Method := { name := "<init>", desc := "()V", sig := { parameters := [], returnType := none }, accessFlags := 1, code := none }
/-- java/lang/Object -/
def k0 : Class := { plain "java/lang/Object" none with
  accessFlags := 33
  interfaces := #[]
  cf := some (fileOf pool0 8 #[] #[{ accessFlags := 1, nameIndex := 5, descriptorIndex := 6, attributes := #[] }] 33 0 #[] #[])
  fields := #[]
  methods := #[k0m0]
  instanceTypes := #[]
  staticTypes := #[]
  resolved := Array.replicate 124 none
  statics := none }

def pool1 : Array CpInfo := pool [(2, .class_ 4), (1, u "java/lang/Object"), (0, u "<init>"), (0, u "()V"), (0, .integer 2147483647), (2, .long 9223372036854775807), (1, .methodref 13 14), (0, .class_ 15), (0, .nameAndType 16 17), (0, u "com/example/gyre/gyre/IoRatio"), (0, u "taskBudgetNanos"), (0, u "(IJ)J"), (0, .class_ 19), (0, u "com/example/gyre/gyre/IoRatioTaskBudgetNanosPinLaw"), (2, u "law"), (0, u "(IJ)Z")] 3

def k1m0 : Method := { name := "<init>", desc := "()V", sig := { parameters := [], returnType := none }, accessFlags := 2, code := none }
def k1c1 : Code := { maxStack := 6, maxLocals := 14, code := code, exceptionTable := #[], attributes := #[] }
def k1m1 : Method := { name := "law", desc := "(IJ)Z", sig := { parameters := [.int, .long], returnType := some .boolean }, accessFlags := 9, code := some k1c1 }
/-- com/example/gyre/gyre/IoRatioTaskBudgetNanosPinLaw -/
def k1 : Class := { plain "com/example/gyre/gyre/IoRatioTaskBudgetNanosPinLaw" (some 0) with
  accessFlags := 49
  interfaces := #[]
  cf := some (fileOf pool1 18 #[] #[{ accessFlags := 2, nameIndex := 5, descriptorIndex := 6, attributes := #[] }, { accessFlags := 9, nameIndex := 22, descriptorIndex := 23, attributes := #[] }] 49 2 #[] #[])
  fields := #[]
  methods := #[k1m0, k1m1]
  instanceTypes := #[]
  staticTypes := #[]
  resolved := Array.replicate 27 none
  statics := none }

def pool2 : Array CpInfo := pool [(4, .class_ 6), (1, u "java/lang/Object"), (0, u "<init>"), (0, u "()V"), (0, .class_ 10), (0, u "com/example/gyre/gyre/IoRatio"), (9, .methodref 9 21), (0, .nameAndType 22 23), (0, u "checkRatio"), (0, u "(I)I"), (3, .long 9223372036854775807), (7, u "DEFAULT"), (0, u "I"), (2, u "MIN"), (1, u "MAX"), (1, u "UNLIMITED"), (0, u "J"), (0, u "TASKS_PER_CLOCK_READ"), (4, u "taskBudgetNanos"), (0, u "(IJ)J")] 21

def k2m0 : Method := { name := "<init>", desc := "()V", sig := { parameters := [], returnType := none }, accessFlags := 2, code := none }
def k2c1 : Code := { maxStack := 3, maxLocals := 1, code := prog_16_method_2_code, exceptionTable := #[], attributes := #[] }
def k2m1 : Method := { name := "checkRatio", desc := "(I)I", sig := { parameters := [.int], returnType := some .int }, accessFlags := 8, code := some k2c1 }
def k2c2 : Code := { maxStack := 6, maxLocals := 4, code := prog_16_method_3_code, exceptionTable := #[], attributes := #[] }
def k2m2 : Method := { name := "taskBudgetNanos", desc := "(IJ)J", sig := { parameters := [.int, .long], returnType := some .long }, accessFlags := 8, code := some k2c2 }
/-- com/example/gyre/gyre/IoRatio -/
def k2 : Class := { plain "com/example/gyre/gyre/IoRatio" (some 0) with
  accessFlags := 48
  interfaces := #[]
  cf := some (fileOf pool2 9 #[] #[{ accessFlags := 2, nameIndex := 7, descriptorIndex := 8, attributes := #[] }, { accessFlags := 8, nameIndex := 22, descriptorIndex := 23, attributes := #[] }, { accessFlags := 8, nameIndex := 50, descriptorIndex := 51, attributes := #[] }] 48 4 #[] #[{ accessFlags := 24, nameIndex := 35, descriptorIndex := 36, attributes := #[] }, { accessFlags := 24, nameIndex := 39, descriptorIndex := 36, attributes := #[] }, { accessFlags := 24, nameIndex := 41, descriptorIndex := 36, attributes := #[] }, { accessFlags := 24, nameIndex := 43, descriptorIndex := 44, attributes := #[] }, { accessFlags := 24, nameIndex := 45, descriptorIndex := 36, attributes := #[] }])
  fields := #[{ name := "DEFAULT", type := .int, accessFlags := 24, slot := 0, constantValue := 0 }, { name := "MIN", type := .int, accessFlags := 24, slot := 1, constantValue := 0 }, { name := "MAX", type := .int, accessFlags := 24, slot := 2, constantValue := 0 }, { name := "UNLIMITED", type := .long, accessFlags := 24, slot := 3, constantValue := 0 }, { name := "TASKS_PER_CLOCK_READ", type := .int, accessFlags := 24, slot := 4, constantValue := 0 }]
  methods := #[k2m0, k2m1, k2m2]
  instanceTypes := #[]
  staticTypes := #[.int, .int, .int, .long, .int]
  resolved := Array.replicate 73 none
  statics := none }

def pool3 : Array CpInfo := pool [(1, u "java/lang/Cloneable"), (0, .class_ 1), (0, u "java/lang/Object"), (0, .class_ 3)] 3

/-- java/lang/Cloneable -/
def k3 : Class := { plain "java/lang/Cloneable" (some 0) with
  accessFlags := 1537
  interfaces := #[]
  cf := some (fileOf pool3 2 #[] #[] 1537 4 #[] #[])
  fields := #[]
  methods := #[]
  instanceTypes := #[]
  staticTypes := #[]
  resolved := Array.replicate 8 none
  statics := none }

def pool4 : Array CpInfo := pool [(1, u "java/io/Serializable"), (0, .class_ 1), (0, u "java/lang/Object"), (0, .class_ 3)] 3

/-- java/io/Serializable -/
def k4 : Class := { plain "java/io/Serializable" (some 0) with
  accessFlags := 1537
  interfaces := #[]
  cf := some (fileOf pool4 2 #[] #[] 1537 4 #[] #[])
  fields := #[]
  methods := #[]
  instanceTypes := #[]
  staticTypes := #[]
  resolved := Array.replicate 8 none
  statics := none }

/-- the primitive byte -/
def k5 : Class := { plain "byte" none with kind := .primitive 'B', accessFlags := 0x411 }
/-- [B -/
def k6 : Class := { plain "[B" (some 0) with kind := .array 5 .byte, interfaces := #[3, 4], accessFlags := 1041 }

def heap : Heap := #[]
def classes : Array Class := #[k0, k1, k2, k3, k4, k5, k6]
def interned : List (Array UInt16 × Addr) := []
def slotsUsed : Nat := 0
def theMethod : MethodId := ⟨1, 1⟩
def args0 : Array Value := #[.int 5, .long 300]
def aboutOver (below : List Frame) : State where
  vm := { classes := classes, interned := interned.toArray }
  heap := heap
  slotsUsed := slotsUsed
  threads := #[{ frames := .invoking theMethod args0 :: below }]
def below0 : List Frame := [.native { method := ⟨0, 0⟩, args := #[] }]
def about1 : State := aboutOver below0
def p0 : Program := .bare "" "" ""
def e0 : Env := launch0.env 0 0 0
theorem w_frames : about1.frames = Frame.invoking theMethod args0 :: below0 := rfl
set_option maxRecDepth 65536 in
theorem w_args : argsFit about1.vm theMethod args0 = true := by decide +kernel
set_option maxRecDepth 65536 in
theorem w_heap : heapFits about1 = true := by decide +kernel
set_option maxRecDepth 65536 in
theorem w_runnable : about1.curStatus? = some .runnable := by decide +kernel
set_option maxRecDepth 65536 in
theorem w_alone : about1.alone = true := by decide +kernel
set_option maxRecDepth 65536 in
theorem w_named : about1.methodNamed? x = some theMethod := by decide +kernel
set_option maxRecDepth 65536 in
theorem w_hears : about1.hears theMethod below0 = true := by decide +kernel
set_option maxRecDepth 65536 in
theorem w_ripe : about1.ripe theMethod args0 below0 = true := by decide +kernel
theorem w_running : about1.status = .running := rfl
set_option maxRecDepth 65536 in
theorem w_room : about1.hasRoom e0.platform room_1 = true :=
  launch0.hasRoom_least _ room_1 (by decide +kernel) (by decide +kernel) (by decide +kernel) (by decide +kernel) (by decide +kernel) (by decide +kernel)
theorem allAtoms_all (ts : List Jvm.Cond) (a : Array Jvm.Value) (st : Jvm.State) : (allAtoms ts).before a st = ts.all (fun c => c.before a st) := by
  induction ts with
  | nil => rfl
  | cons c t ih =>
    show (Jvm.Cond.and c (allAtoms t)).before a st = _
    rw [Jvm.Cond.before_and, ih, List.all_cons]
def words1 : List Jvm.Cond := Jvm.Cond.code x code maxLocals ret :: tables_1
/-- a 'code' word, met by the world's own term for the bytes: nothing is compared byte by byte -/
theorem code_word {y : MethodName} {bytes : ByteArray} {mx : Nat} {rt : Option FieldType} {a : Array Value} {s : State} {m : MethodId} {meth : Method} {c : Code} (h1 : s.methodNamed? y = some m) (h2 : s.vm.method? m = some meth) (h3 : meth.code = some c) (h4 : c.code = bytes)
    (h5 : (c.maxLocals == mx && c.exceptionTable.isEmpty && decide (c.maxStack ≤ mostOperands) && decide (meth.sig.returnType = rt) && !meth.locks && decide (parseMethodDescriptor y.desc = some meth.sig)) = true) : (Jvm.Cond.code y bytes mx rt).before a s = true := by
  simp only [Bool.and_eq_true, beq_iff_eq, Bool.not_eq_true', decide_eq_true_eq] at h5
  obtain ⟨⟨⟨⟨⟨g1, g2⟩, g3⟩, g4⟩, g5⟩, g6⟩ := h5
  simp [Cond.before, Cond.holds, Cond.value, h1, h2, h3, h4, g1, g2, g3, g4, g5, g6]
def isCode : Jvm.Cond → Bool
  | .code _ _ _ _ => true
  | _ => false
theorem all_split {L : List Jvm.Cond} {P : Jvm.Cond → Bool} (h1 : L.all (fun c => isCode c || P c) = true) (h2 : ∀ c ∈ L.filter isCode, P c = true) : L.all P = true := by
  refine List.all_eq_true.mpr fun c hc => ?_
  have h := List.all_eq_true.mp h1 c hc
  rcases Bool.eq_false_or_eq_true (isCode c) with hi | hi
  · exact h2 c (List.mem_filter.mpr ⟨hc, hi⟩)
  · simpa [hi] using h
set_option maxRecDepth 65536 in
theorem w_c0 : (Jvm.Cond.code x code maxLocals ret).before args0 about1 = true := code_word (m := ⟨1, 1⟩) (meth := k1m1) (c := k1c1) (by decide +kernel) rfl rfl rfl (by decide +kernel)
set_option maxRecDepth 65536 in
theorem w_c1 : (Jvm.Cond.code ({ cls := "com/example/gyre/gyre/IoRatio", name := "taskBudgetNanos", desc := "(IJ)J" } : Jvm.MethodName) prog_16_method_3_code (4 : Nat) (Option.some Jvm.ClassFile.FieldType.long)).before args0 about1 = true := code_word (m := ⟨2, 2⟩) (meth := k2m2) (c := k2c2) (by decide +kernel) rfl rfl rfl (by decide +kernel)
set_option maxRecDepth 65536 in
theorem w_c2 : (Jvm.Cond.code ({ cls := "com/example/gyre/gyre/IoRatio", name := "checkRatio", desc := "(I)I" } : Jvm.MethodName) prog_16_method_2_code (1 : Nat) (Option.some Jvm.ClassFile.FieldType.int)).before args0 about1 = true := code_word (m := ⟨2, 1⟩) (meth := k2m1) (c := k2c1) (by decide +kernel) rfl rfl rfl (by decide +kernel)
def codes1 : List Jvm.Cond := [Jvm.Cond.code x code maxLocals ret, Jvm.Cond.code ({ cls := "com/example/gyre/gyre/IoRatio", name := "taskBudgetNanos", desc := "(IJ)J" } : Jvm.MethodName) prog_16_method_3_code (4 : Nat) (Option.some Jvm.ClassFile.FieldType.long), Jvm.Cond.code ({ cls := "com/example/gyre/gyre/IoRatio", name := "checkRatio", desc := "(I)I" } : Jvm.MethodName) prog_16_method_2_code (1 : Nat) (Option.some Jvm.ClassFile.FieldType.int)]
set_option maxRecDepth 65536 in
theorem codes_eq : words1.filter isCode = codes1 := rfl
theorem w_codes : ∀ c ∈ words1.filter isCode, c.before args0 about1 = true := by
  rw [codes_eq]
  intro c hc
  simp only [codes1, List.mem_cons, List.not_mem_nil, or_false] at hc
  rcases hc with rfl | rfl | rfl
  · exact w_c0
  · exact w_c1
  · exact w_c2
set_option maxRecDepth 65536 in
theorem w_t1 : words1.all (fun c => isCode c || c.before args0 about1) = true := by decide +kernel
theorem w_tables : (allAtoms (Jvm.Cond.code x code maxLocals ret :: tables_1)).before args0 about1 = true := by
  rw [allAtoms_all]
  show words1.all (fun c => c.before args0 about1) = true
  refine all_split ?_ w_codes
  rw [w_t1]
set_option maxRecDepth 65536 in
theorem w_case : (Jvm.Cond.and given_1 narrow_1).before args0 about1 = true := by decide +kernel
theorem w_applies : (headSpec (Jvm.Cond.code x code maxLocals ret :: tables_1) room_1).applies x e0.platform about1 = true :=
  (Spec.applies_iff w_frames).mpr ⟨w_running, w_runnable, w_alone, w_named, w_hears, w_ripe, w_room, w_tables⟩
theorem atStart : AtStart classFile x code maxLocals ret World_1 tables_1 room_1 Calls_1 rest_1 Pre_1 launch0 p0 e0 about1 theMethod args0 below0 :=
  ⟨lists_1, trivial, launch0.admits_env _ _ _, launch0.least_env, fairChoices_fair.cas, fairChoices_fair.clock, w_frames, w_args, w_heap, w_applies, trivial, trivial, w_case⟩
end start1
theorem witness_1 : WitnessClaimed_1 := ⟨start1.p0, start1.e0, start1.about1, start1.theMethod, start1.args0, start1.below0, start1.atStart⟩
end Jvm.Pilot.@@N@@
