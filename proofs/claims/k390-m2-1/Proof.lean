import JvmDerived
import JvmDerived.Pilot.@@N@@Statement
import JvmDerived.Pilot.@@N@@Code
set_option linter.unusedVariables false
set_option linter.unusedSimpArgs false
namespace Jvm.RoadKit
open Sem ClassFile Op Lib Jvm.Stand Jvm.Free Jvm.LawKit
section New
variable {p : Program} {l : Launch} {e : Env} {R : Room} {s : State} {m : MethodId} {args : Array Value} {below : List Frame} {meth : Method} {c : Code} {T : State} {locs : List Loc} {cells slots : Nat}
theorem retI (X : Stand p l e R s m args below meth c T locs cells slots) (hx : p.tables.exec = Jvm.exec) {pc : Nat} {Ls : Array Slot} {z : Int32} {rest : List Value} (hret : meth.sig.returnType = some .int) (hd : decode c.code pc = .ok (.ireturn, 1)) {fs : List Frame}
    (hl : ∀ (f : JFrame) (acts : List Action), f.method = m → f.locked = none → f.entered = [] → (doReturn e (T.setTop f) acts (some (.int z))).1 = T.setFrames fs) : Steps p.tables e below (T.setTop (mkF m pc Ls (.int z :: rest))) (T.setFrames fs) := by
  have hm' : T.vm.method? m = some meth := X.method'
  have hn : narrow .int (.int z) = .int z := rfl
  show Steps p.tables e below (T.setTop { method := m, pc := pc, locals := Ls, stack := _ :: rest, locked := none }) _
  jvm_step X.here [X.here.top, hx, hd, hm', hret, hn]
  first | (intro acts; rw [hl _ acts rfl rfl rfl]) | rw [hl _ _ rfl rfl rfl]
  exact Steps.refl _
end New
end Jvm.RoadKit
namespace Jvm.Pilot.@@N@@
open Jvm Jvm.ClassFile Sem Op Lib Jvm.Free Jvm.Stand Jvm.LawKit Jvm.RoadKit Bundle Jvm.Pilot.@@N@@.Jvm.D
def own_irem (a b : Int32) : Int32 := a - (a / b) * b
def own_lrem (a b : Int64) : Int64 := a - (a / b) * b
def own_num (o u v w : Addr) : Int32 := if o = u then (1 : Int32) else (if o = v then (1 : Int32) else (if o = w then (1 : Int32) else (0 : Int32)))
theorem own_irem_mod (x y : Int32) : own_irem x y = x % y := by
  apply Int32.toInt_inj.mp
  have h1 := Int32.le_toInt (x % y)
  have h2 := Int32.toInt_lt (x % y)
  rw [own_irem, Int32.toInt_sub, Int32.toInt_mul, Int32.toInt_div, Int.bmod_mul_bmod, Int.sub_bmod_bmod, Int.mul_comm (x.toInt.tdiv y.toInt), ← Int.tmod_def, ← Int32.toInt_mod]
  exact Int.bmod_eq_of_le_mul_two (by omega) (by omega)
theorem own_n7 {p ii : Int32} (h : ii = (own_irem (p &&& (2147483647 : Int32)) (7 : Int32))) : ii = (0 : Int32) ∨ ii = (1 : Int32) ∨ ii = (2 : Int32) ∨ ii = (3 : Int32) ∨ ii = (4 : Int32) ∨ ii = (5 : Int32) ∨ ii = (6 : Int32) := by
  have h1 := c_mask p 2147483647 31 (by decide) (by decide)
  have h2 := c_irem (p &&& (2147483647 : Int32)) 7 7 (by decide)
  have h5 : ((p &&& (2147483647 : Int32)) % 7).toInt = (p &&& (2147483647 : Int32)).toInt % 7 := h2.1 (by rw [h1]; omega)
  rw [own_irem_mod] at h
  rw [← h] at h5
  simp only [← Int32.toInt_inj, show (0 : Int32).toInt = 0 by decide, show (1 : Int32).toInt = 1 by decide, show (2 : Int32).toInt = 2 by decide, show (3 : Int32).toInt = 3 by decide, show (4 : Int32).toInt = 4 by decide, show (5 : Int32).toInt = 5 by decide, show (6 : Int32).toInt = 6 by decide]
  omega

theorem d1_0 : decode prog_67_method_7_code 0 = .ok (.aload_n 0, 1) := by decide +kernel
theorem d1_1 : decode prog_67_method_7_code 1 = .ok (.getstatic 3, 3) := by decide +kernel
theorem d1_4 : decode prog_67_method_7_code 4 = .ok (.if_acmp .eq 17, 3) := by decide +kernel
theorem d1_7 : decode prog_67_method_7_code 7 = .ok (.aload_n 0, 1) := by decide +kernel
theorem d1_8 : decode prog_67_method_7_code 8 = .ok (.getstatic 7, 3) := by decide +kernel
theorem d1_11 : decode prog_67_method_7_code 11 = .ok (.if_acmp .eq 10, 3) := by decide +kernel
theorem d1_14 : decode prog_67_method_7_code 14 = .ok (.aload_n 0, 1) := by decide +kernel
theorem d1_15 : decode prog_67_method_7_code 15 = .ok (.getstatic 10, 3) := by decide +kernel
theorem d1_18 : decode prog_67_method_7_code 18 = .ok (.if_acmp .ne 7, 3) := by decide +kernel
theorem d1_21 : decode prog_67_method_7_code 21 = .ok (.iconst 1, 1) := by decide +kernel
theorem d1_22 : decode prog_67_method_7_code 22 = .ok (.goto 4, 3) := by decide +kernel
theorem d1_25 : decode prog_67_method_7_code 25 = .ok (.iconst 0, 1) := by decide +kernel
theorem d1_26 : decode prog_67_method_7_code 26 = .ok (.ireturn, 1) := by decide +kernel
theorem pn_1 : plainName "com/example/querent/querent/language/ValueType" = true := by first | (simp [plainName, overriddenIn]; done) | decide +kernel
theorem ef_rm1 (m : MethodId) (o0 : Addr) : entryFrame m #[(.ref o0)] 1 = mkF m 0 #[.val (.ref o0)] [] := by first | (simp [entryFrame, mkF, argsToLocals, Value.category]; done) | rfl
def rm1Q (Z : State) (o0 u0 u1 u2 : Addr) (h0 : Heap) (n0 : Nat) (v : Option Value) (h : Heap) (L : List Loc) : Prop := v = some (.int (own_num o0 u0 u1 u2)) ∧ Fr n0 L ∧ h = h0
set_option maxRecDepth 65536 in
set_option maxHeartbeats 40000000 in
theorem rm1 (l : Launch) (Z : State) (aw : Array Value) (hw : ∀ d ∈ tables_1, d.before aw Z = true) (ws : List Jvm.Cond) (o0 : Addr) (u0 u1 u2 : Addr) (h0 : Heap) (n0 : Nat) (Z0 : n0 ≤ h0.size) (Sx0 : Sta Z h0 "com/example/querent/querent/language/ValueType" "INTEGER" "Lcom/example/querent/querent/language/ValueType;" (.ref u0)) (Sx1 : Sta Z h0 "com/example/querent/querent/language/ValueType" "DECIMAL" "Lcom/example/querent/querent/language/ValueType;" (.ref u1)) (Sx2 : Sta Z h0 "com/example/querent/querent/language/ValueType" "FLOAT" "Lcom/example/querent/querent/language/ValueType;" (.ref u2)) :
    MetFree l (⟨"com/example/querent/querent/language/ValueType", "isNumeric", "()Z"⟩ : MethodName) (head1 (Jvm.Cond.code (⟨"com/example/querent/querent/language/ValueType", "isNumeric", "()Z"⟩ : MethodName) prog_67_method_7_code 1 (some .boolean) :: ws) ({ frames := 0, cells := 0, slots := 0, locals := 0 } : Room)) (fun a U => a = #[(.ref o0)] ∧ Z.Warmed39 U.vm ∧ U.heap = h0) (fun _ _ _ _ _ => True) (fun _ U o U' => ∃ v L, o = .returned v ∧ rm1Q Z o0 u0 u1 u2 h0 n0 v U'.heap L ∧ FrameEnd U o U' L ({ frames := 0, cells := 0, slots := 0, locals := 0 } : Room).cells ({ frames := 0, cells := 0, slots := 0, locals := 0 } : Room).slots) := by
  refine MetFree.of_bodySF (plainFor_of_name pn_1) hisR ?_
  intro p e s m args below meth c s₁ Bd hml0 hP hK
  obtain ⟨rfl, hZ, hh⟩ := hP
  have hx := Bd.exec
  have hby := Bd.bytes
  have hml : c.maxLocals = 1 := hml0
  have hown : s.vm.findClass "com/example/querent/querent/language/ValueType" = some m.cls := findClass_of_methodNamed Bd.named
  have hnm := (name_of_methodNamed Bd.named Bd.method).1
  have X0 : Stand p l e ({ frames := 0, cells := 0, slots := 0, locals := 0 } : Room) s m #[(.ref o0)] below meth c s₁ [] 0 0 := Stand.of_body Bd
  have e0 : s₁.heap = h0 := by rw [← hh, Bd.state]; rfl
  have N0 := Fr.nil n0
  have pre0 : ∀ t, Steps p.tables e below (s₁.setTop (mkF m 0 #[.val (.ref o0)] [])) t → Steps p.tables e below (s₁.setTop (entryFrame m #[(.ref o0)] 1)) t := fun t k => castTop (ef_rm1 m o0) k
  obtain ⟨T1, X1, e1, st1⟩ := getS2 X0 hx hZ hown (host := "") (Or.inl (hw _ (List.mem_of_getElem? (i := 24) rfl))) Via.refl e0 Sx0 (g := (mkF m 1 #[.val (.ref o0)] [(.ref o0)])) rfl (hb hby d1_1)
  have pre2 : ∀ t, Steps p.tables e below (T1.setTop (mkF m 4 #[.val (.ref o0)] [(.ref u0), (.ref o0)])) t → Steps p.tables e below (s₁.setTop (entryFrame m #[(.ref o0)] 1)) t := fun t k => pre0 t (by
    show Steps p.tables e below (s₁.setTop (mkF m 0 #[.val (.ref o0)] [])) _
    refine XS.aloadN X0.here hx rfl (hb hby d1_0) rfl rfl ?_
    show Steps p.tables e below (s₁.setTop (mkF m 1 #[.val (.ref o0)] [(.ref o0)])) _
    refine st1 _ ?_
    exact k)
  by_cases hc4_3 : o0 = u0
  · obtain ⟨fs, hr, hrun, hended, hW, hsame⟩ := X1.leave (v := some (.int (1 : Int32))) (fun h => by rw [Bd.returns] at h; cases h)
    refine ⟨_, _, pre2 _ ?_, hrun, hended, _, _, rfl, ?_, ⟨_, rfl⟩, hW, hsame.mono (by decide) (by decide)⟩
    · show Steps p.tables e below (T1.setTop (mkF m 4 #[.val (.ref o0)] [(.ref u0), (.ref o0)])) _
      refine Jvm.RoadKit.acmp (g := (mkF m 4 #[.val (.ref o0)] [(.ref u0), (.ref o0)])) X1 hx rfl rfl rfl (pc0 := 4) (pc' := 21) (same := true) rfl (hb hby d1_4) rfl (decide_eq_true (congrArg Value.ref hc4_3)) (by decide) (by decide) ?_
      show Steps p.tables e below (T1.setTop (mkF m 21 #[.val (.ref o0)] [])) _
      refine XS.iconst X1.here hx rfl (hb hby d1_21) ?_
      show Steps p.tables e below (T1.setTop (mkF m 22 #[.val (.ref o0)] [(.int (1 : Int32))])) _
      refine XS.goto X1.here hx rfl (pc0 := 22) (pc' := 26) rfl (hb hby d1_22) (by decide) (by decide) ?_
      show Steps p.tables e below (T1.setTop (mkF m 26 #[.val (.ref o0)] [(.int (1 : Int32))])) _
      exact retN X1 hx (t := .boolean) Bd.returns (by simp) (hb hby d1_26) hr
    · show rm1Q Z o0 u0 u1 u2 h0 n0 _ T1.heap _
      rw [e1]
      exact ⟨(by rw [own_num, if_pos hc4_3]), N0, rfl⟩
  · obtain ⟨T4, X4, e4, st4⟩ := getS2 X1 hx hZ hown (host := "") (Or.inl (hw _ (List.mem_of_getElem? (i := 25) rfl))) Via.refl e1 Sx1 (g := (mkF m 8 #[.val (.ref o0)] [(.ref o0)])) rfl (hb hby d1_8)
    have pre5 : ∀ t, Steps p.tables e below (T4.setTop (mkF m 11 #[.val (.ref o0)] [(.ref u1), (.ref o0)])) t → Steps p.tables e below (s₁.setTop (entryFrame m #[(.ref o0)] 1)) t := fun t k => pre2 t (by
      show Steps p.tables e below (T1.setTop (mkF m 4 #[.val (.ref o0)] [(.ref u0), (.ref o0)])) _
      refine Jvm.RoadKit.acmp (g := (mkF m 4 #[.val (.ref o0)] [(.ref u0), (.ref o0)])) X1 hx rfl rfl rfl (pc0 := 4) (pc' := 7) (same := false) rfl (hb hby d1_4) rfl (decide_eq_false fun q => hc4_3 (Value.ref.inj q)) (by decide) (by decide) ?_
      show Steps p.tables e below (T1.setTop (mkF m 7 #[.val (.ref o0)] [])) _
      refine XS.aloadN X1.here hx rfl (hb hby d1_7) rfl rfl ?_
      show Steps p.tables e below (T1.setTop (mkF m 8 #[.val (.ref o0)] [(.ref o0)])) _
      refine st4 _ ?_
      exact k)
    by_cases hc11_6 : o0 = u1
    · obtain ⟨fs, hr, hrun, hended, hW, hsame⟩ := X4.leave (v := some (.int (1 : Int32))) (fun h => by rw [Bd.returns] at h; cases h)
      refine ⟨_, _, pre5 _ ?_, hrun, hended, _, _, rfl, ?_, ⟨_, rfl⟩, hW, hsame.mono (by decide) (by decide)⟩
      · show Steps p.tables e below (T4.setTop (mkF m 11 #[.val (.ref o0)] [(.ref u1), (.ref o0)])) _
        refine Jvm.RoadKit.acmp (g := (mkF m 11 #[.val (.ref o0)] [(.ref u1), (.ref o0)])) X4 hx rfl rfl rfl (pc0 := 11) (pc' := 21) (same := true) rfl (hb hby d1_11) rfl (decide_eq_true (congrArg Value.ref hc11_6)) (by decide) (by decide) ?_
        show Steps p.tables e below (T4.setTop (mkF m 21 #[.val (.ref o0)] [])) _
        refine XS.iconst X4.here hx rfl (hb hby d1_21) ?_
        show Steps p.tables e below (T4.setTop (mkF m 22 #[.val (.ref o0)] [(.int (1 : Int32))])) _
        refine XS.goto X4.here hx rfl (pc0 := 22) (pc' := 26) rfl (hb hby d1_22) (by decide) (by decide) ?_
        show Steps p.tables e below (T4.setTop (mkF m 26 #[.val (.ref o0)] [(.int (1 : Int32))])) _
        exact retN X4 hx (t := .boolean) Bd.returns (by simp) (hb hby d1_26) hr
      · show rm1Q Z o0 u0 u1 u2 h0 n0 _ T4.heap _
        rw [e4]
        exact ⟨(by rw [own_num, if_neg hc4_3, if_pos hc11_6]), N0, rfl⟩
    · obtain ⟨T7, X7, e7, st7⟩ := getS2 X4 hx hZ hown (host := "") (Or.inl (hw _ (List.mem_of_getElem? (i := 26) rfl))) Via.refl e4 Sx2 (g := (mkF m 15 #[.val (.ref o0)] [(.ref o0)])) rfl (hb hby d1_15)
      have pre8 : ∀ t, Steps p.tables e below (T7.setTop (mkF m 18 #[.val (.ref o0)] [(.ref u2), (.ref o0)])) t → Steps p.tables e below (s₁.setTop (entryFrame m #[(.ref o0)] 1)) t := fun t k => pre5 t (by
        show Steps p.tables e below (T4.setTop (mkF m 11 #[.val (.ref o0)] [(.ref u1), (.ref o0)])) _
        refine Jvm.RoadKit.acmp (g := (mkF m 11 #[.val (.ref o0)] [(.ref u1), (.ref o0)])) X4 hx rfl rfl rfl (pc0 := 11) (pc' := 14) (same := false) rfl (hb hby d1_11) rfl (decide_eq_false fun q => hc11_6 (Value.ref.inj q)) (by decide) (by decide) ?_
        show Steps p.tables e below (T4.setTop (mkF m 14 #[.val (.ref o0)] [])) _
        refine XS.aloadN X4.here hx rfl (hb hby d1_14) rfl rfl ?_
        show Steps p.tables e below (T4.setTop (mkF m 15 #[.val (.ref o0)] [(.ref o0)])) _
        refine st7 _ ?_
        exact k)
      by_cases hc18_9 : o0 = u2
      · obtain ⟨fs, hr, hrun, hended, hW, hsame⟩ := X7.leave (v := some (.int (1 : Int32))) (fun h => by rw [Bd.returns] at h; cases h)
        refine ⟨_, _, pre8 _ ?_, hrun, hended, _, _, rfl, ?_, ⟨_, rfl⟩, hW, hsame.mono (by decide) (by decide)⟩
        · show Steps p.tables e below (T7.setTop (mkF m 18 #[.val (.ref o0)] [(.ref u2), (.ref o0)])) _
          refine Jvm.RoadKit.acmp (g := (mkF m 18 #[.val (.ref o0)] [(.ref u2), (.ref o0)])) X7 hx rfl rfl rfl (pc0 := 18) (pc' := 21) (same := true) rfl (hb hby d1_18) rfl (decide_eq_true (congrArg Value.ref hc18_9)) (by decide) (by decide) ?_
          show Steps p.tables e below (T7.setTop (mkF m 21 #[.val (.ref o0)] [])) _
          refine XS.iconst X7.here hx rfl (hb hby d1_21) ?_
          show Steps p.tables e below (T7.setTop (mkF m 22 #[.val (.ref o0)] [(.int (1 : Int32))])) _
          refine XS.goto X7.here hx rfl (pc0 := 22) (pc' := 26) rfl (hb hby d1_22) (by decide) (by decide) ?_
          show Steps p.tables e below (T7.setTop (mkF m 26 #[.val (.ref o0)] [(.int (1 : Int32))])) _
          exact retN X7 hx (t := .boolean) Bd.returns (by simp) (hb hby d1_26) hr
        · show rm1Q Z o0 u0 u1 u2 h0 n0 _ T7.heap _
          rw [e7]
          exact ⟨(by rw [own_num, if_neg hc4_3, if_neg hc11_6, if_pos hc18_9]), N0, rfl⟩
      · obtain ⟨fs, hr, hrun, hended, hW, hsame⟩ := X7.leave (v := some (.int (0 : Int32))) (fun h => by rw [Bd.returns] at h; cases h)
        refine ⟨_, _, pre8 _ ?_, hrun, hended, _, _, rfl, ?_, ⟨_, rfl⟩, hW, hsame.mono (by decide) (by decide)⟩
        · show Steps p.tables e below (T7.setTop (mkF m 18 #[.val (.ref o0)] [(.ref u2), (.ref o0)])) _
          refine Jvm.RoadKit.acmp (g := (mkF m 18 #[.val (.ref o0)] [(.ref u2), (.ref o0)])) X7 hx rfl rfl rfl (pc0 := 18) (pc' := 25) (same := false) rfl (hb hby d1_18) rfl (decide_eq_false fun q => hc18_9 (Value.ref.inj q)) (by decide) (by decide) ?_
          show Steps p.tables e below (T7.setTop (mkF m 25 #[.val (.ref o0)] [])) _
          refine XS.iconst X7.here hx rfl (hb hby d1_25) ?_
          show Steps p.tables e below (T7.setTop (mkF m 26 #[.val (.ref o0)] [(.int (0 : Int32))])) _
          exact retN X7 hx (t := .boolean) Bd.returns (by simp) (hb hby d1_26) hr
        · show rm1Q Z o0 u0 u1 u2 h0 n0 _ T7.heap _
          rw [e7]
          exact ⟨(by rw [own_num, if_neg hc4_3, if_neg hc11_6, if_neg hc18_9]), N0, rfl⟩
theorem pn_0 : plainName "com/example/querent/querent/language/ValueTypeIsNumericPinLaw" = true := by first | (simp [plainName, overriddenIn]; done) | decide +kernel
theorem pd_rm0_0 : parseMethodDescriptor "()Z" = some ⟨[], some .boolean⟩ := by decide +kernel
theorem ef_rm0 (m : MethodId) (p0 : Int32) : entryFrame m #[(.int p0)] maxLocals = mkF m 0 #[.val (.int p0), .unset, .unset, .unset, .unset] [] := by first | (simp [entryFrame, mkF, argsToLocals, Value.category, maxLocals]; done) | rfl
def rm0Q (Z : State) (p0 : Int32) (h0 : Heap) (n0 : Nat) (v : Option Value) (h : Heap) (L : List Loc) : Prop := v = some (.int (1 : Int32)) ∧ Fr n0 L
set_option maxRecDepth 65536 in
set_option maxHeartbeats 40000000 in
theorem rm0 (l : Launch) (Z : State) (aw : Array Value) (hw : ∀ d ∈ tables_1, d.before aw Z = true) (ws : List Jvm.Cond) (p0 : Int32) (u0 u1 u2 u3 u4 u5 u6 : Addr) (h0 : Heap) (n0 : Nat) (Z0 : n0 ≤ h0.size) (Sx0 : Sta Z h0 "com/example/querent/querent/language/ValueType" "INTEGER" "Lcom/example/querent/querent/language/ValueType;" (.ref u0)) (Sx1 : Sta Z h0 "com/example/querent/querent/language/ValueType" "DECIMAL" "Lcom/example/querent/querent/language/ValueType;" (.ref u1)) (Sx2 : Sta Z h0 "com/example/querent/querent/language/ValueType" "FLOAT" "Lcom/example/querent/querent/language/ValueType;" (.ref u2)) (Sx3 : Sta Z h0 "com/example/querent/querent/language/ValueType" "STRING" "Lcom/example/querent/querent/language/ValueType;" (.ref u3)) (Sx4 : Sta Z h0 "com/example/querent/querent/language/ValueType" "DATE" "Lcom/example/querent/querent/language/ValueType;" (.ref u4)) (Sx5 : Sta Z h0 "com/example/querent/querent/language/ValueType" "TIME" "Lcom/example/querent/querent/language/ValueType;" (.ref u5)) (Sx6 : Sta Z h0 "com/example/querent/querent/language/ValueType" "TIMESTAMP" "Lcom/example/querent/querent/language/ValueType;" (.ref u6)) (Eu0 : Exa Z h0 u0 "com/example/querent/querent/language/ValueType") (Eu1 : Exa Z h0 u1 "com/example/querent/querent/language/ValueType") (Eu2 : Exa Z h0 u2 "com/example/querent/querent/language/ValueType") (Eu3 : Exa Z h0 u3 "com/example/querent/querent/language/ValueType") (Eu4 : Exa Z h0 u4 "com/example/querent/querent/language/ValueType") (Eu5 : Exa Z h0 u5 "com/example/querent/querent/language/ValueType") (Eu6 : Exa Z h0 u6 "com/example/querent/querent/language/ValueType") (ne_u0_u1 : u0 ≠ u1) (ne_u0_u2 : u0 ≠ u2) (ne_u0_u3 : u0 ≠ u3) (ne_u0_u4 : u0 ≠ u4) (ne_u0_u5 : u0 ≠ u5) (ne_u0_u6 : u0 ≠ u6) (ne_u1_u2 : u1 ≠ u2) (ne_u1_u3 : u1 ≠ u3) (ne_u1_u4 : u1 ≠ u4) (ne_u1_u5 : u1 ≠ u5) (ne_u1_u6 : u1 ≠ u6) (ne_u2_u3 : u2 ≠ u3) (ne_u2_u4 : u2 ≠ u4) (ne_u2_u5 : u2 ≠ u5) (ne_u2_u6 : u2 ≠ u6) (ne_u3_u4 : u3 ≠ u4) (ne_u3_u5 : u3 ≠ u5) (ne_u3_u6 : u3 ≠ u6) (ne_u4_u5 : u4 ≠ u5) (ne_u4_u6 : u4 ≠ u6) (ne_u5_u6 : u5 ≠ u6) :
    MetFree l x (head1 (Jvm.Cond.code x code maxLocals ret :: ws) room_1) (fun a U => a = #[(.int p0)] ∧ Z.Warmed39 U.vm ∧ U.heap = h0) (fun _ _ _ _ _ => True) (fun _ U o U' => ∃ v L, o = .returned v ∧ rm0Q Z p0 h0 n0 v U'.heap L ∧ FrameEnd U o U' L room_1.cells room_1.slots) := by
  refine MetFree.of_bodySF (plainFor_of_name pn_0) hisR ?_
  intro p e s m args below meth c s₁ Bd hml0 hP hK
  obtain ⟨rfl, hZ, hh⟩ := hP
  have hx := Bd.exec
  have hby := Bd.bytes
  have hml : c.maxLocals = 5 := hml0
  have hown : s.vm.findClass "com/example/querent/querent/language/ValueTypeIsNumericPinLaw" = some m.cls := findClass_of_methodNamed Bd.named
  have hnm := (name_of_methodNamed Bd.named Bd.method).1
  have X0 : Stand p l e room_1 s m #[(.int p0)] below meth c s₁ [] 0 0 := Stand.of_body Bd
  have e0 : s₁.heap = h0 := by rw [← hh, Bd.state]; rfl
  have N0 := Fr.nil n0
  have pre0 : ∀ t, Steps p.tables e below (s₁.setTop (mkF m 0 #[.val (.int p0), .unset, .unset, .unset, .unset] [])) t → Steps p.tables e below (s₁.setTop (entryFrame m #[(.int p0)] maxLocals)) t := fun t k => castTop (ef_rm0 m p0) k
  obtain ⟨T1, h1, k1, X1, e1, E1, A1, O1, st1⟩ := newR X0 hx hZ hown (hw _ (List.mem_of_getElem? (i := 0) rfl)) (hw _ (List.mem_of_getElem? (i := 1) rfl)) e0 (g := (mkF m 2 #[.val (.int p0), .unset, .unset, .unset, .unset] [(.int (7 : Int32))])) rfl (hb hby at_2) rfl (by decide) (cap := 7) (by decide) (by decide) (by decide) (by decide)
  obtain ⟨b1, g1⟩ : ∃ z, z = h0.size := ⟨_, rfl⟩
  rw [← g1] at A1 st1
  have g_b1 : n0 ≤ b1 := Nat.le_trans Z0 (Nat.le_of_eq g1.symm)
  have sz_b1 : h0.size ≤ b1 := Nat.le_trans (Keep.refl h0 []).1 (Nat.le_of_eq g1.symm)
  have ne_u0_b1 : u0 ≠ b1 := Nat.ne_of_lt (Nat.lt_of_lt_of_le Eu0.lt (Nat.le_of_eq g1.symm))
  have ne_u1_b1 : u1 ≠ b1 := Nat.ne_of_lt (Nat.lt_of_lt_of_le Eu1.lt (Nat.le_of_eq g1.symm))
  have ne_u2_b1 : u2 ≠ b1 := Nat.ne_of_lt (Nat.lt_of_lt_of_le Eu2.lt (Nat.le_of_eq g1.symm))
  have ne_u3_b1 : u3 ≠ b1 := Nat.ne_of_lt (Nat.lt_of_lt_of_le Eu3.lt (Nat.le_of_eq g1.symm))
  have ne_u4_b1 : u4 ≠ b1 := Nat.ne_of_lt (Nat.lt_of_lt_of_le Eu4.lt (Nat.le_of_eq g1.symm))
  have ne_u5_b1 : u5 ≠ b1 := Nat.ne_of_lt (Nat.lt_of_lt_of_le Eu5.lt (Nat.le_of_eq g1.symm))
  have ne_u6_b1 : u6 ≠ b1 := Nat.ne_of_lt (Nat.lt_of_lt_of_le Eu6.lt (Nat.le_of_eq g1.symm))
  have V_b1 : Arv Z h1 b1 k1 (.object "com/example/querent/querent/language/ValueType") (7 : Int32) [.null, .null, .null, .null, .null, .null, .null] .null := (Arv.new A1 (by decide)).pad (pad_rep [] .null 7)
  have Ss_2 : Sta Z h1 "com/example/querent/querent/language/ValueType" "INTEGER" "Lcom/example/querent/querent/language/ValueType;" (.ref u0) := (Sx0.ext E1)
  obtain ⟨T3, X3, e3, st3⟩ := getS2 X1 hx hZ hown (host := "") (Or.inl (hw _ (List.mem_of_getElem? (i := 2) rfl))) Via.refl e1 Ss_2 (g := (mkF m 7 #[.val (.int p0), .unset, .unset, .unset, .unset] [(.int (0 : Int32)), (.ref b1), (.ref b1)])) rfl (hb hby at_7)
  obtain ⟨cl4, Ar4, q4, S4, N4', H4, G4⟩ := id V_b1
  have hin4 : ¬ ((0 : Int32) < 0 ∨ cl4.slots.size ≤ ((0 : Int32)).toNatClampNeg) := inb_of S4 ⟨by decide, by decide⟩
  have Ee_5 : Exa Z h1 u0 "com/example/querent/querent/language/ValueType" := (Eu0.ext E1)
  obtain ⟨T6, h6, X6, e6, W6, st6⟩ := stR X3 hx hZ e3 Ar4 (j := (0 : Int32)) hin4 rfl (Sto.ofV Ar4 q4 O1 (Ins.self Ee_5)) (g := (mkF m 10 #[.val (.int p0), .unset, .unset, .unset, .unset] [(.ref u0), (.int (0 : Int32)), (.ref b1), (.ref b1)])) rfl rfl (hb hby at_10)
  have Vs6 : Arv Z h6 b1 k1 (.object "com/example/querent/querent/language/ValueType") (7 : Int32) [(.ref u0), .null, .null, .null, .null, .null, .null] .null := Arv.set Ar4 q4 S4 N4' H4 G4 rfl W6 0 rfl (Nat.le_of_ble_eq_true rfl)
  have N6 := Fr.snoc X6 N0 g_b1
  have Ss_7 : Sta Z h6 "com/example/querent/querent/language/ValueType" "DECIMAL" "Lcom/example/querent/querent/language/ValueType;" (.ref u1) := ((Sx1.ext E1).wr W6)
  obtain ⟨T8, X8, e8, st8⟩ := getS2 X6 hx hZ hown (host := "") (Or.inl (hw _ (List.mem_of_getElem? (i := 6) rfl))) Via.refl e6 Ss_7 (g := (mkF m 13 #[.val (.int p0), .unset, .unset, .unset, .unset] [(.int (1 : Int32)), (.ref b1), (.ref b1)])) rfl (hb hby at_13)
  obtain ⟨cl9, Ar9, q9, S9, N9', H9, G9⟩ := id Vs6
  have hin9 : ¬ ((1 : Int32) < 0 ∨ cl9.slots.size ≤ ((1 : Int32)).toNatClampNeg) := inb_of S9 ⟨by decide, by decide⟩
  have Ee_10 : Exa Z h6 u1 "com/example/querent/querent/language/ValueType" := ((Eu1.ext E1).wr W6)
  obtain ⟨T11, h11, X11, e11, W11, st11⟩ := stR X8 hx hZ e8 Ar9 (j := (1 : Int32)) hin9 rfl (Sto.ofV Ar9 q9 O1 (Ins.self Ee_10)) (g := (mkF m 16 #[.val (.int p0), .unset, .unset, .unset, .unset] [(.ref u1), (.int (1 : Int32)), (.ref b1), (.ref b1)])) rfl rfl (hb hby at_16)
  have Vs11 : Arv Z h11 b1 k1 (.object "com/example/querent/querent/language/ValueType") (7 : Int32) [(.ref u0), (.ref u1), .null, .null, .null, .null, .null] .null := Arv.set Ar9 q9 S9 N9' H9 G9 rfl W11 1 rfl (Nat.le_of_ble_eq_true rfl)
  have N11 := Fr.snoc X11 N6 g_b1
  have Ss_12 : Sta Z h11 "com/example/querent/querent/language/ValueType" "FLOAT" "Lcom/example/querent/querent/language/ValueType;" (.ref u2) := (((Sx2.ext E1).wr W6).wr W11)
  obtain ⟨T13, X13, e13, st13⟩ := getS2 X11 hx hZ hown (host := "") (Or.inl (hw _ (List.mem_of_getElem? (i := 8) rfl))) Via.refl e11 Ss_12 (g := (mkF m 19 #[.val (.int p0), .unset, .unset, .unset, .unset] [(.int (2 : Int32)), (.ref b1), (.ref b1)])) rfl (hb hby at_19)
  obtain ⟨cl14, Ar14, q14, S14, N14', H14, G14⟩ := id Vs11
  have hin14 : ¬ ((2 : Int32) < 0 ∨ cl14.slots.size ≤ ((2 : Int32)).toNatClampNeg) := inb_of S14 ⟨by decide, by decide⟩
  have Ee_15 : Exa Z h11 u2 "com/example/querent/querent/language/ValueType" := (((Eu2.ext E1).wr W6).wr W11)
  obtain ⟨T16, h16, X16, e16, W16, st16⟩ := stR X13 hx hZ e13 Ar14 (j := (2 : Int32)) hin14 rfl (Sto.ofV Ar14 q14 O1 (Ins.self Ee_15)) (g := (mkF m 22 #[.val (.int p0), .unset, .unset, .unset, .unset] [(.ref u2), (.int (2 : Int32)), (.ref b1), (.ref b1)])) rfl rfl (hb hby at_22)
  have Vs16 : Arv Z h16 b1 k1 (.object "com/example/querent/querent/language/ValueType") (7 : Int32) [(.ref u0), (.ref u1), (.ref u2), .null, .null, .null, .null] .null := Arv.set Ar14 q14 S14 N14' H14 G14 rfl W16 2 rfl (Nat.le_of_ble_eq_true rfl)
  have N16 := Fr.snoc X16 N11 g_b1
  have Ss_17 : Sta Z h16 "com/example/querent/querent/language/ValueType" "STRING" "Lcom/example/querent/querent/language/ValueType;" (.ref u3) := ((((Sx3.ext E1).wr W6).wr W11).wr W16)
  obtain ⟨T18, X18, e18, st18⟩ := getS2 X16 hx hZ hown (host := "") (Or.inl (hw _ (List.mem_of_getElem? (i := 10) rfl))) Via.refl e16 Ss_17 (g := (mkF m 25 #[.val (.int p0), .unset, .unset, .unset, .unset] [(.int (3 : Int32)), (.ref b1), (.ref b1)])) rfl (hb hby at_25)
  obtain ⟨cl19, Ar19, q19, S19, N19', H19, G19⟩ := id Vs16
  have hin19 : ¬ ((3 : Int32) < 0 ∨ cl19.slots.size ≤ ((3 : Int32)).toNatClampNeg) := inb_of S19 ⟨by decide, by decide⟩
  have Ee_20 : Exa Z h16 u3 "com/example/querent/querent/language/ValueType" := ((((Eu3.ext E1).wr W6).wr W11).wr W16)
  obtain ⟨T21, h21, X21, e21, W21, st21⟩ := stR X18 hx hZ e18 Ar19 (j := (3 : Int32)) hin19 rfl (Sto.ofV Ar19 q19 O1 (Ins.self Ee_20)) (g := (mkF m 28 #[.val (.int p0), .unset, .unset, .unset, .unset] [(.ref u3), (.int (3 : Int32)), (.ref b1), (.ref b1)])) rfl rfl (hb hby at_28)
  have Vs21 : Arv Z h21 b1 k1 (.object "com/example/querent/querent/language/ValueType") (7 : Int32) [(.ref u0), (.ref u1), (.ref u2), (.ref u3), .null, .null, .null] .null := Arv.set Ar19 q19 S19 N19' H19 G19 rfl W21 3 rfl (Nat.le_of_ble_eq_true rfl)
  have N21 := Fr.snoc X21 N16 g_b1
  have Ss_22 : Sta Z h21 "com/example/querent/querent/language/ValueType" "DATE" "Lcom/example/querent/querent/language/ValueType;" (.ref u4) := (((((Sx4.ext E1).wr W6).wr W11).wr W16).wr W21)
  obtain ⟨T23, X23, e23, st23⟩ := getS2 X21 hx hZ hown (host := "") (Or.inl (hw _ (List.mem_of_getElem? (i := 12) rfl))) Via.refl e21 Ss_22 (g := (mkF m 31 #[.val (.int p0), .unset, .unset, .unset, .unset] [(.int (4 : Int32)), (.ref b1), (.ref b1)])) rfl (hb hby at_31)
  obtain ⟨cl24, Ar24, q24, S24, N24', H24, G24⟩ := id Vs21
  have hin24 : ¬ ((4 : Int32) < 0 ∨ cl24.slots.size ≤ ((4 : Int32)).toNatClampNeg) := inb_of S24 ⟨by decide, by decide⟩
  have Ee_25 : Exa Z h21 u4 "com/example/querent/querent/language/ValueType" := (((((Eu4.ext E1).wr W6).wr W11).wr W16).wr W21)
  obtain ⟨T26, h26, X26, e26, W26, st26⟩ := stR X23 hx hZ e23 Ar24 (j := (4 : Int32)) hin24 rfl (Sto.ofV Ar24 q24 O1 (Ins.self Ee_25)) (g := (mkF m 34 #[.val (.int p0), .unset, .unset, .unset, .unset] [(.ref u4), (.int (4 : Int32)), (.ref b1), (.ref b1)])) rfl rfl (hb hby at_34)
  have Vs26 : Arv Z h26 b1 k1 (.object "com/example/querent/querent/language/ValueType") (7 : Int32) [(.ref u0), (.ref u1), (.ref u2), (.ref u3), (.ref u4), .null, .null] .null := Arv.set Ar24 q24 S24 N24' H24 G24 rfl W26 4 rfl (Nat.le_of_ble_eq_true rfl)
  have N26 := Fr.snoc X26 N21 g_b1
  have Ss_27 : Sta Z h26 "com/example/querent/querent/language/ValueType" "TIME" "Lcom/example/querent/querent/language/ValueType;" (.ref u5) := ((((((Sx5.ext E1).wr W6).wr W11).wr W16).wr W21).wr W26)
  obtain ⟨T28, X28, e28, st28⟩ := getS2 X26 hx hZ hown (host := "") (Or.inl (hw _ (List.mem_of_getElem? (i := 14) rfl))) Via.refl e26 Ss_27 (g := (mkF m 37 #[.val (.int p0), .unset, .unset, .unset, .unset] [(.int (5 : Int32)), (.ref b1), (.ref b1)])) rfl (hb hby at_37)
  obtain ⟨cl29, Ar29, q29, S29, N29', H29, G29⟩ := id Vs26
  have hin29 : ¬ ((5 : Int32) < 0 ∨ cl29.slots.size ≤ ((5 : Int32)).toNatClampNeg) := inb_of S29 ⟨by decide, by decide⟩
  have Ee_30 : Exa Z h26 u5 "com/example/querent/querent/language/ValueType" := ((((((Eu5.ext E1).wr W6).wr W11).wr W16).wr W21).wr W26)
  obtain ⟨T31, h31, X31, e31, W31, st31⟩ := stR X28 hx hZ e28 Ar29 (j := (5 : Int32)) hin29 rfl (Sto.ofV Ar29 q29 O1 (Ins.self Ee_30)) (g := (mkF m 40 #[.val (.int p0), .unset, .unset, .unset, .unset] [(.ref u5), (.int (5 : Int32)), (.ref b1), (.ref b1)])) rfl rfl (hb hby at_40)
  have Vs31 : Arv Z h31 b1 k1 (.object "com/example/querent/querent/language/ValueType") (7 : Int32) [(.ref u0), (.ref u1), (.ref u2), (.ref u3), (.ref u4), (.ref u5), .null] .null := Arv.set Ar29 q29 S29 N29' H29 G29 rfl W31 5 rfl (Nat.le_of_ble_eq_true rfl)
  have N31 := Fr.snoc X31 N26 g_b1
  have Ss_32 : Sta Z h31 "com/example/querent/querent/language/ValueType" "TIMESTAMP" "Lcom/example/querent/querent/language/ValueType;" (.ref u6) := (((((((Sx6.ext E1).wr W6).wr W11).wr W16).wr W21).wr W26).wr W31)
  obtain ⟨T33, X33, e33, st33⟩ := getS2 X31 hx hZ hown (host := "") (Or.inl (hw _ (List.mem_of_getElem? (i := 16) rfl))) Via.refl e31 Ss_32 (g := (mkF m 44 #[.val (.int p0), .unset, .unset, .unset, .unset] [(.int (6 : Int32)), (.ref b1), (.ref b1)])) rfl (hb hby at_44)
  obtain ⟨cl34, Ar34, q34, S34, N34', H34, G34⟩ := id Vs31
  have hin34 : ¬ ((6 : Int32) < 0 ∨ cl34.slots.size ≤ ((6 : Int32)).toNatClampNeg) := inb_of S34 ⟨by decide, by decide⟩
  have Ee_35 : Exa Z h31 u6 "com/example/querent/querent/language/ValueType" := (((((((Eu6.ext E1).wr W6).wr W11).wr W16).wr W21).wr W26).wr W31)
  obtain ⟨T36, h36, X36, e36, W36, st36⟩ := stR X33 hx hZ e33 Ar34 (j := (6 : Int32)) hin34 rfl (Sto.ofV Ar34 q34 O1 (Ins.self Ee_35)) (g := (mkF m 47 #[.val (.int p0), .unset, .unset, .unset, .unset] [(.ref u6), (.int (6 : Int32)), (.ref b1), (.ref b1)])) rfl rfl (hb hby at_47)
  have Vs36 : Arv Z h36 b1 k1 (.object "com/example/querent/querent/language/ValueType") (7 : Int32) [(.ref u0), (.ref u1), (.ref u2), (.ref u3), (.ref u4), (.ref u5), (.ref u6)] .null := Arv.set Ar34 q34 S34 N34' H34 G34 rfl W36 6 rfl (Nat.le_of_ble_eq_true rfl)
  have N36 := Fr.snoc X36 N31 g_b1
  have pre37 : ∀ t, Steps p.tables e below (T36.setTop (mkF m 56 #[.val (.int p0), .val (.ref b1), .unset, .unset, .unset] [(.int (own_irem (p0 &&& (2147483647 : Int32)) (7 : Int32)))])) t → Steps p.tables e below (s₁.setTop (entryFrame m #[(.int p0)] maxLocals)) t := fun t k => pre0 t (by
    show Steps p.tables e below (s₁.setTop (mkF m 0 #[.val (.int p0), .unset, .unset, .unset, .unset] [])) _
    refine XS.bipush X0.here hx rfl (hb hby at_0) ?_
    show Steps p.tables e below (s₁.setTop (mkF m 2 #[.val (.int p0), .unset, .unset, .unset, .unset] [(.int (7 : Int32))])) _
    refine st1 _ ?_
    show Steps p.tables e below (T1.setTop (mkF m 5 #[.val (.int p0), .unset, .unset, .unset, .unset] [(.ref b1)])) _
    refine XS.dup X1.here hx rfl (hb hby at_5) rfl rfl ?_
    show Steps p.tables e below (T1.setTop (mkF m 6 #[.val (.int p0), .unset, .unset, .unset, .unset] [(.ref b1), (.ref b1)])) _
    refine XS.iconst X1.here hx rfl (hb hby at_6) ?_
    show Steps p.tables e below (T1.setTop (mkF m 7 #[.val (.int p0), .unset, .unset, .unset, .unset] [(.int (0 : Int32)), (.ref b1), (.ref b1)])) _
    refine st3 _ ?_
    show Steps p.tables e below (T3.setTop (mkF m 10 #[.val (.int p0), .unset, .unset, .unset, .unset] [(.ref u0), (.int (0 : Int32)), (.ref b1), (.ref b1)])) _
    refine st6 _ ?_
    show Steps p.tables e below (T6.setTop (mkF m 11 #[.val (.int p0), .unset, .unset, .unset, .unset] [(.ref b1)])) _
    refine XS.dup X6.here hx rfl (hb hby at_11) rfl rfl ?_
    show Steps p.tables e below (T6.setTop (mkF m 12 #[.val (.int p0), .unset, .unset, .unset, .unset] [(.ref b1), (.ref b1)])) _
    refine XS.iconst X6.here hx rfl (hb hby at_12) ?_
    show Steps p.tables e below (T6.setTop (mkF m 13 #[.val (.int p0), .unset, .unset, .unset, .unset] [(.int (1 : Int32)), (.ref b1), (.ref b1)])) _
    refine st8 _ ?_
    show Steps p.tables e below (T8.setTop (mkF m 16 #[.val (.int p0), .unset, .unset, .unset, .unset] [(.ref u1), (.int (1 : Int32)), (.ref b1), (.ref b1)])) _
    refine st11 _ ?_
    show Steps p.tables e below (T11.setTop (mkF m 17 #[.val (.int p0), .unset, .unset, .unset, .unset] [(.ref b1)])) _
    refine XS.dup X11.here hx rfl (hb hby at_17) rfl rfl ?_
    show Steps p.tables e below (T11.setTop (mkF m 18 #[.val (.int p0), .unset, .unset, .unset, .unset] [(.ref b1), (.ref b1)])) _
    refine XS.iconst X11.here hx rfl (hb hby at_18) ?_
    show Steps p.tables e below (T11.setTop (mkF m 19 #[.val (.int p0), .unset, .unset, .unset, .unset] [(.int (2 : Int32)), (.ref b1), (.ref b1)])) _
    refine st13 _ ?_
    show Steps p.tables e below (T13.setTop (mkF m 22 #[.val (.int p0), .unset, .unset, .unset, .unset] [(.ref u2), (.int (2 : Int32)), (.ref b1), (.ref b1)])) _
    refine st16 _ ?_
    show Steps p.tables e below (T16.setTop (mkF m 23 #[.val (.int p0), .unset, .unset, .unset, .unset] [(.ref b1)])) _
    refine XS.dup X16.here hx rfl (hb hby at_23) rfl rfl ?_
    show Steps p.tables e below (T16.setTop (mkF m 24 #[.val (.int p0), .unset, .unset, .unset, .unset] [(.ref b1), (.ref b1)])) _
    refine XS.iconst X16.here hx rfl (hb hby at_24) ?_
    show Steps p.tables e below (T16.setTop (mkF m 25 #[.val (.int p0), .unset, .unset, .unset, .unset] [(.int (3 : Int32)), (.ref b1), (.ref b1)])) _
    refine st18 _ ?_
    show Steps p.tables e below (T18.setTop (mkF m 28 #[.val (.int p0), .unset, .unset, .unset, .unset] [(.ref u3), (.int (3 : Int32)), (.ref b1), (.ref b1)])) _
    refine st21 _ ?_
    show Steps p.tables e below (T21.setTop (mkF m 29 #[.val (.int p0), .unset, .unset, .unset, .unset] [(.ref b1)])) _
    refine XS.dup X21.here hx rfl (hb hby at_29) rfl rfl ?_
    show Steps p.tables e below (T21.setTop (mkF m 30 #[.val (.int p0), .unset, .unset, .unset, .unset] [(.ref b1), (.ref b1)])) _
    refine XS.iconst X21.here hx rfl (hb hby at_30) ?_
    show Steps p.tables e below (T21.setTop (mkF m 31 #[.val (.int p0), .unset, .unset, .unset, .unset] [(.int (4 : Int32)), (.ref b1), (.ref b1)])) _
    refine st23 _ ?_
    show Steps p.tables e below (T23.setTop (mkF m 34 #[.val (.int p0), .unset, .unset, .unset, .unset] [(.ref u4), (.int (4 : Int32)), (.ref b1), (.ref b1)])) _
    refine st26 _ ?_
    show Steps p.tables e below (T26.setTop (mkF m 35 #[.val (.int p0), .unset, .unset, .unset, .unset] [(.ref b1)])) _
    refine XS.dup X26.here hx rfl (hb hby at_35) rfl rfl ?_
    show Steps p.tables e below (T26.setTop (mkF m 36 #[.val (.int p0), .unset, .unset, .unset, .unset] [(.ref b1), (.ref b1)])) _
    refine XS.iconst X26.here hx rfl (hb hby at_36) ?_
    show Steps p.tables e below (T26.setTop (mkF m 37 #[.val (.int p0), .unset, .unset, .unset, .unset] [(.int (5 : Int32)), (.ref b1), (.ref b1)])) _
    refine st28 _ ?_
    show Steps p.tables e below (T28.setTop (mkF m 40 #[.val (.int p0), .unset, .unset, .unset, .unset] [(.ref u5), (.int (5 : Int32)), (.ref b1), (.ref b1)])) _
    refine st31 _ ?_
    show Steps p.tables e below (T31.setTop (mkF m 41 #[.val (.int p0), .unset, .unset, .unset, .unset] [(.ref b1)])) _
    refine XS.dup X31.here hx rfl (hb hby at_41) rfl rfl ?_
    show Steps p.tables e below (T31.setTop (mkF m 42 #[.val (.int p0), .unset, .unset, .unset, .unset] [(.ref b1), (.ref b1)])) _
    refine XS.bipush X31.here hx rfl (hb hby at_42) ?_
    show Steps p.tables e below (T31.setTop (mkF m 44 #[.val (.int p0), .unset, .unset, .unset, .unset] [(.int (6 : Int32)), (.ref b1), (.ref b1)])) _
    refine st33 _ ?_
    show Steps p.tables e below (T33.setTop (mkF m 47 #[.val (.int p0), .unset, .unset, .unset, .unset] [(.ref u6), (.int (6 : Int32)), (.ref b1), (.ref b1)])) _
    refine st36 _ ?_
    show Steps p.tables e below (T36.setTop (mkF m 48 #[.val (.int p0), .unset, .unset, .unset, .unset] [(.ref b1)])) _
    refine XS.astoreN X36.here hx rfl (hb hby at_48) rfl rfl (l' := #[.val (.int p0), .val (.ref b1), .unset, .unset, .unset]) rfl ?_
    show Steps p.tables e below (T36.setTop (mkF m 49 #[.val (.int p0), .val (.ref b1), .unset, .unset, .unset] [])) _
    refine XS.iloadN X36.here hx rfl (hb hby at_49) rfl ?_
    show Steps p.tables e below (T36.setTop (mkF m 50 #[.val (.int p0), .val (.ref b1), .unset, .unset, .unset] [(.int p0)])) _
    refine X36.ldcInt hx hown (mvT hZ (hw _ (List.mem_of_getElem? (i := 18) rfl))) (g := (mkF m 50 #[.val (.int p0), .val (.ref b1), .unset, .unset, .unset] [(.int p0)])) rfl (hb hby at_50) _ ?_
    show Steps p.tables e below (T36.setTop (mkF m 52 #[.val (.int p0), .val (.ref b1), .unset, .unset, .unset] [(.int (2147483647 : Int32)), (.int p0)])) _
    refine XS.iand X36.here hx rfl (hb hby at_52) rfl ?_
    show Steps p.tables e below (T36.setTop (mkF m 53 #[.val (.int p0), .val (.ref b1), .unset, .unset, .unset] [(.int (p0 &&& (2147483647 : Int32)))])) _
    refine XS.bipush X36.here hx rfl (hb hby at_53) ?_
    show Steps p.tables e below (T36.setTop (mkF m 55 #[.val (.int p0), .val (.ref b1), .unset, .unset, .unset] [(.int (7 : Int32)), (.int (p0 &&& (2147483647 : Int32)))])) _
    refine XS.irem X36.here hx rfl (hb hby at_55) rfl (by decide) ?_
    exact k)
  obtain ⟨ii, hii⟩ : ∃ z : Int32, z = (own_irem (p0 &&& (2147483647 : Int32)) (7 : Int32)) := ⟨_, rfl⟩
  rw [← hii] at pre37
  have pre38 : ∀ t, Steps p.tables e below (T36.setTop (mkF m 57 #[.val (.int p0), .val (.ref b1), .val (.int ii), .unset, .unset] [])) t → Steps p.tables e below (s₁.setTop (entryFrame m #[(.int p0)] maxLocals)) t := fun t k => pre37 t (by
    show Steps p.tables e below (T36.setTop (mkF m 56 #[.val (.int p0), .val (.ref b1), .unset, .unset, .unset] [(.int ii)])) _
    refine XS.istoreN X36.here hx rfl (hb hby at_56) rfl (l' := #[.val (.int p0), .val (.ref b1), .val (.int ii), .unset, .unset]) rfl ?_
    exact k)
  rcases own_n7 hii with rfl | rfl | rfl | rfl | rfl | rfl | rfl
  · obtain ⟨cl39, Ar39, q39, S39, N39', H39, G39⟩ := id Vs36
    have hin39 : ¬ ((0 : Int32) < 0 ∨ cl39.slots.size ≤ ((0 : Int32)).toNatClampNeg) := inb_of S39 ⟨by decide, by decide⟩
    have Zz_41 : n0 ≤ h36.size := (Nat.le_trans (Nat.le_trans (Nat.le_trans (Nat.le_trans (Nat.le_trans (Nat.le_trans (Nat.le_trans (Nat.le_trans Z0 E1.1) (Keep.of_wr W6).1) (Keep.of_wr W11).1) (Keep.of_wr W16).1) (Keep.of_wr W21).1) (Keep.of_wr W26).1) (Keep.of_wr W31).1) (Keep.of_wr W36).1)
    have Ss_42 : Sta Z h36 "com/example/querent/querent/language/ValueType" "INTEGER" "Lcom/example/querent/querent/language/ValueType;" (.ref u0) := (((((((Ss_2.wr W6).wr W11).wr W16).wr W21).wr W26).wr W31).wr W36)
    have Ss_43 : Sta Z h36 "com/example/querent/querent/language/ValueType" "DECIMAL" "Lcom/example/querent/querent/language/ValueType;" (.ref u1) := ((((((Ss_7.wr W11).wr W16).wr W21).wr W26).wr W31).wr W36)
    have Ss_44 : Sta Z h36 "com/example/querent/querent/language/ValueType" "FLOAT" "Lcom/example/querent/querent/language/ValueType;" (.ref u2) := (((((Ss_12.wr W16).wr W21).wr W26).wr W31).wr W36)
    have Ee_45 : Exa Z h36 u0 "com/example/querent/querent/language/ValueType" := (((((((Ee_5.wr W6).wr W11).wr W16).wr W21).wr W26).wr W31).wr W36)
    obtain ⟨cq40, kq40, q40a, q40b, q40c⟩ := isOf hZ e36 (Ee_45)
    obtain ⟨_, _, ⟨T40, L40, k40, n40⟩, -, X40, ⟨Lc40, hQ40, l40, y40, z40⟩, st40⟩ := X36.virtualBack hx (y := (⟨"com/example/querent/querent/language/ValueType", "isNumeric", "()Z"⟩ : MethodName)) (z := (⟨"com/example/querent/querent/language/ValueType", "isNumeric", "()Z"⟩ : MethodName)) hown (mvT hZ (hw _ (List.mem_of_getElem? (i := 19) rfl))) (mvT hZ (hw _ (List.mem_of_getElem? (i := 20) rfl))) (notFace_of_selects (args := #[]) (mvT hZ (hw _ (List.mem_of_getElem? (i := 22) rfl)))) (mvT hZ (hw _ (List.mem_of_getElem? (i := 22) rfl))) (mvT hZ (hw _ (List.mem_of_getElem? (i := 21) rfl))) (by decide) (backOf (W := 0) (rm1 l Z aw hw [] u0 u0 u1 u2 h36 n0 Zz_41 Ss_42 Ss_43 Ss_44) hZ (hw _ (List.mem_of_getElem? (i := 23) rfl)) (hw _ (List.mem_of_getElem? (i := 3) rfl)) (by decide) (by decide)) q40a q40c (g := (mkF m 83 #[.val (.int p0), .val (.ref b1), .val (.int (0 : Int32)), .val (.ref u0), .val (.int (1 : Int32))] [(.ref u0)])) rfl (by rw [hml]; rfl) (Steps.refl _) (argsL := []) (rest := []) (lenOf pd_rm0_0 rfl) rfl (by show 2 * 0 + _ ≤ _; exact Nat.le_of_eq rfl) (hb hby at_83) (fun _ _ => ⟨rfl, e36, (by decide : 1 + 0 ≤ _), (by decide : 7 + 0 ≤ _)⟩)
    dsimp only [Pt.U, Pt.locs, Pt.cells, Pt.slots] at X40 l40 y40 z40 st40 hQ40
    subst l40 y40 z40
    obtain ⟨rfl, N40q, e40q⟩ := hQ40
    have N40 := Fr.app N36 N40q
    obtain ⟨fs, hr, hrun, hended, hW, hsame⟩ := X40.leave (v := some (.int (1 : Int32))) (fun h => by rw [Bd.returns] at h; cases h)
    refine ⟨_, _, pre38 _ ?_, hrun, hended, _, _, rfl, ?_, ⟨_, rfl⟩, hW, hsame.mono (by decide) (by decide)⟩
    · show Steps p.tables e below (T36.setTop (mkF m 57 #[.val (.int p0), .val (.ref b1), .val (.int (0 : Int32)), .unset, .unset] [])) _
      refine XS.aloadN X36.here hx rfl (hb hby at_57) rfl rfl ?_
      show Steps p.tables e below (T36.setTop (mkF m 58 #[.val (.int p0), .val (.ref b1), .val (.int (0 : Int32)), .unset, .unset] [(.ref b1)])) _
      refine XS.iloadN X36.here hx rfl (hb hby at_58) rfl ?_
      show Steps p.tables e below (T36.setTop (mkF m 59 #[.val (.int p0), .val (.ref b1), .val (.int (0 : Int32)), .unset, .unset] [(.int (0 : Int32)), (.ref b1)])) _
      refine X36.aaload hx (j := (0 : Int32)) (v := (.ref u0)) (by rw [e36]; exact Ar39.1) (State.isArrayOf_alike hZ.alike Ar39.2.1) rfl Ar39.2.2 hin39 (H39.at hin39 rfl) (g := (mkF m 59 #[.val (.int p0), .val (.ref b1), .val (.int (0 : Int32)), .unset, .unset] [(.int (0 : Int32)), (.ref b1)])) rfl rfl (hb hby at_59) _ ?_
      show Steps p.tables e below (T36.setTop (mkF m 60 #[.val (.int p0), .val (.ref b1), .val (.int (0 : Int32)), .unset, .unset] [(.ref u0)])) _
      refine XS.astoreN X36.here hx rfl (hb hby at_60) rfl rfl (l' := #[.val (.int p0), .val (.ref b1), .val (.int (0 : Int32)), .val (.ref u0), .unset]) rfl ?_
      show Steps p.tables e below (T36.setTop (mkF m 61 #[.val (.int p0), .val (.ref b1), .val (.int (0 : Int32)), .val (.ref u0), .unset] [])) _
      refine XS.iloadN X36.here hx rfl (hb hby at_61) rfl ?_
      show Steps p.tables e below (T36.setTop (mkF m 62 #[.val (.int p0), .val (.ref b1), .val (.int (0 : Int32)), .val (.ref u0), .unset] [(.int (0 : Int32))])) _
      refine XS.ifYes X36.here hx rfl (pc0 := 62) (pc' := 75) rfl (hb hby at_62) rfl ((if0 _ _).trans (teq (rfl : (0 : Int32) = (0 : Int32))).1) (by decide) (by decide) ?_
      show Steps p.tables e below (T36.setTop (mkF m 75 #[.val (.int p0), .val (.ref b1), .val (.int (0 : Int32)), .val (.ref u0), .unset] [])) _
      refine XS.iconst X36.here hx rfl (hb hby at_75) ?_
      show Steps p.tables e below (T36.setTop (mkF m 76 #[.val (.int p0), .val (.ref b1), .val (.int (0 : Int32)), .val (.ref u0), .unset] [(.int (1 : Int32))])) _
      refine XS.goto X36.here hx rfl (pc0 := 76) (pc' := 80) rfl (hb hby at_76) (by decide) (by decide) ?_
      show Steps p.tables e below (T36.setTop (mkF m 80 #[.val (.int p0), .val (.ref b1), .val (.int (0 : Int32)), .val (.ref u0), .unset] [(.int (1 : Int32))])) _
      refine XS.istore X36.here hx rfl (hb hby at_80) rfl (l' := #[.val (.int p0), .val (.ref b1), .val (.int (0 : Int32)), .val (.ref u0), .val (.int (1 : Int32))]) rfl ?_
      show Steps p.tables e below (T36.setTop (mkF m 82 #[.val (.int p0), .val (.ref b1), .val (.int (0 : Int32)), .val (.ref u0), .val (.int (1 : Int32))] [])) _
      refine XS.aloadN X36.here hx rfl (hb hby at_82) rfl rfl ?_
      show Steps p.tables e below (T36.setTop (mkF m 83 #[.val (.int p0), .val (.ref b1), .val (.int (0 : Int32)), .val (.ref u0), .val (.int (1 : Int32))] [(.ref u0)])) _
      refine st40.trans ?_
      show Steps p.tables e below (T40.setTop (mkF m 86 #[.val (.int p0), .val (.ref b1), .val (.int (0 : Int32)), .val (.ref u0), .val (.int (1 : Int32))] [(.int (own_num u0 u0 u1 u2))])) _
      refine XS.iload X40.here hx rfl (hb hby at_86) rfl ?_
      show Steps p.tables e below (T40.setTop (mkF m 88 #[.val (.int p0), .val (.ref b1), .val (.int (0 : Int32)), .val (.ref u0), .val (.int (1 : Int32))] [(.int (1 : Int32)), (.int (own_num u0 u0 u1 u2))])) _
      refine XS.icmpNo X40.here hx rfl (hb hby at_88) rfl (teq (by rw [own_num, if_pos rfl] : (own_num u0 u0 u1 u2) = (1 : Int32))).2 ?_
      show Steps p.tables e below (T40.setTop (mkF m 91 #[.val (.int p0), .val (.ref b1), .val (.int (0 : Int32)), .val (.ref u0), .val (.int (1 : Int32))] [])) _
      refine XS.iconst X40.here hx rfl (hb hby at_91) ?_
      show Steps p.tables e below (T40.setTop (mkF m 92 #[.val (.int p0), .val (.ref b1), .val (.int (0 : Int32)), .val (.ref u0), .val (.int (1 : Int32))] [(.int (1 : Int32))])) _
      refine XS.goto X40.here hx rfl (pc0 := 92) (pc' := 96) rfl (hb hby at_92) (by decide) (by decide) ?_
      show Steps p.tables e below (T40.setTop (mkF m 96 #[.val (.int p0), .val (.ref b1), .val (.int (0 : Int32)), .val (.ref u0), .val (.int (1 : Int32))] [(.int (1 : Int32))])) _
      exact retN X40 hx (t := .boolean) Bd.returns (by simp) (hb hby at_96) hr
    · show rm0Q Z p0 h0 n0 _ T40.heap _
      rw [e40q]
      exact ⟨rfl, N40⟩
  · obtain ⟨cl46, Ar46, q46, S46, N46', H46, G46⟩ := id Vs36
    have hin46 : ¬ ((1 : Int32) < 0 ∨ cl46.slots.size ≤ ((1 : Int32)).toNatClampNeg) := inb_of S46 ⟨by decide, by decide⟩
    have Zz_48 : n0 ≤ h36.size := (Nat.le_trans (Nat.le_trans (Nat.le_trans (Nat.le_trans (Nat.le_trans (Nat.le_trans (Nat.le_trans (Nat.le_trans Z0 E1.1) (Keep.of_wr W6).1) (Keep.of_wr W11).1) (Keep.of_wr W16).1) (Keep.of_wr W21).1) (Keep.of_wr W26).1) (Keep.of_wr W31).1) (Keep.of_wr W36).1)
    have Ss_49 : Sta Z h36 "com/example/querent/querent/language/ValueType" "INTEGER" "Lcom/example/querent/querent/language/ValueType;" (.ref u0) := (((((((Ss_2.wr W6).wr W11).wr W16).wr W21).wr W26).wr W31).wr W36)
    have Ss_50 : Sta Z h36 "com/example/querent/querent/language/ValueType" "DECIMAL" "Lcom/example/querent/querent/language/ValueType;" (.ref u1) := ((((((Ss_7.wr W11).wr W16).wr W21).wr W26).wr W31).wr W36)
    have Ss_51 : Sta Z h36 "com/example/querent/querent/language/ValueType" "FLOAT" "Lcom/example/querent/querent/language/ValueType;" (.ref u2) := (((((Ss_12.wr W16).wr W21).wr W26).wr W31).wr W36)
    have Ee_52 : Exa Z h36 u1 "com/example/querent/querent/language/ValueType" := ((((((Ee_10.wr W11).wr W16).wr W21).wr W26).wr W31).wr W36)
    obtain ⟨cq47, kq47, q47a, q47b, q47c⟩ := isOf hZ e36 (Ee_52)
    obtain ⟨_, _, ⟨T47, L47, k47, n47⟩, -, X47, ⟨Lc47, hQ47, l47, y47, z47⟩, st47⟩ := X36.virtualBack hx (y := (⟨"com/example/querent/querent/language/ValueType", "isNumeric", "()Z"⟩ : MethodName)) (z := (⟨"com/example/querent/querent/language/ValueType", "isNumeric", "()Z"⟩ : MethodName)) hown (mvT hZ (hw _ (List.mem_of_getElem? (i := 19) rfl))) (mvT hZ (hw _ (List.mem_of_getElem? (i := 20) rfl))) (notFace_of_selects (args := #[]) (mvT hZ (hw _ (List.mem_of_getElem? (i := 22) rfl)))) (mvT hZ (hw _ (List.mem_of_getElem? (i := 22) rfl))) (mvT hZ (hw _ (List.mem_of_getElem? (i := 21) rfl))) (by decide) (backOf (W := 0) (rm1 l Z aw hw [] u1 u0 u1 u2 h36 n0 Zz_48 Ss_49 Ss_50 Ss_51) hZ (hw _ (List.mem_of_getElem? (i := 23) rfl)) (hw _ (List.mem_of_getElem? (i := 3) rfl)) (by decide) (by decide)) q47a q47c (g := (mkF m 83 #[.val (.int p0), .val (.ref b1), .val (.int (1 : Int32)), .val (.ref u1), .val (.int (1 : Int32))] [(.ref u1)])) rfl (by rw [hml]; rfl) (Steps.refl _) (argsL := []) (rest := []) (lenOf pd_rm0_0 rfl) rfl (by show 2 * 0 + _ ≤ _; exact Nat.le_of_eq rfl) (hb hby at_83) (fun _ _ => ⟨rfl, e36, (by decide : 1 + 0 ≤ _), (by decide : 7 + 0 ≤ _)⟩)
    dsimp only [Pt.U, Pt.locs, Pt.cells, Pt.slots] at X47 l47 y47 z47 st47 hQ47
    subst l47 y47 z47
    obtain ⟨rfl, N47q, e47q⟩ := hQ47
    have N47 := Fr.app N36 N47q
    obtain ⟨fs, hr, hrun, hended, hW, hsame⟩ := X47.leave (v := some (.int (1 : Int32))) (fun h => by rw [Bd.returns] at h; cases h)
    refine ⟨_, _, pre38 _ ?_, hrun, hended, _, _, rfl, ?_, ⟨_, rfl⟩, hW, hsame.mono (by decide) (by decide)⟩
    · show Steps p.tables e below (T36.setTop (mkF m 57 #[.val (.int p0), .val (.ref b1), .val (.int (1 : Int32)), .unset, .unset] [])) _
      refine XS.aloadN X36.here hx rfl (hb hby at_57) rfl rfl ?_
      show Steps p.tables e below (T36.setTop (mkF m 58 #[.val (.int p0), .val (.ref b1), .val (.int (1 : Int32)), .unset, .unset] [(.ref b1)])) _
      refine XS.iloadN X36.here hx rfl (hb hby at_58) rfl ?_
      show Steps p.tables e below (T36.setTop (mkF m 59 #[.val (.int p0), .val (.ref b1), .val (.int (1 : Int32)), .unset, .unset] [(.int (1 : Int32)), (.ref b1)])) _
      refine X36.aaload hx (j := (1 : Int32)) (v := (.ref u1)) (by rw [e36]; exact Ar46.1) (State.isArrayOf_alike hZ.alike Ar46.2.1) rfl Ar46.2.2 hin46 (H46.at hin46 rfl) (g := (mkF m 59 #[.val (.int p0), .val (.ref b1), .val (.int (1 : Int32)), .unset, .unset] [(.int (1 : Int32)), (.ref b1)])) rfl rfl (hb hby at_59) _ ?_
      show Steps p.tables e below (T36.setTop (mkF m 60 #[.val (.int p0), .val (.ref b1), .val (.int (1 : Int32)), .unset, .unset] [(.ref u1)])) _
      refine XS.astoreN X36.here hx rfl (hb hby at_60) rfl rfl (l' := #[.val (.int p0), .val (.ref b1), .val (.int (1 : Int32)), .val (.ref u1), .unset]) rfl ?_
      show Steps p.tables e below (T36.setTop (mkF m 61 #[.val (.int p0), .val (.ref b1), .val (.int (1 : Int32)), .val (.ref u1), .unset] [])) _
      refine XS.iloadN X36.here hx rfl (hb hby at_61) rfl ?_
      show Steps p.tables e below (T36.setTop (mkF m 62 #[.val (.int p0), .val (.ref b1), .val (.int (1 : Int32)), .val (.ref u1), .unset] [(.int (1 : Int32))])) _
      refine XS.ifNo X36.here hx rfl (hb hby at_62) rfl ((if0 _ _).trans (feq ((by decide) : ¬ ((1 : Int32) = (0 : Int32)))).1) ?_
      show Steps p.tables e below (T36.setTop (mkF m 65 #[.val (.int p0), .val (.ref b1), .val (.int (1 : Int32)), .val (.ref u1), .unset] [])) _
      refine XS.iloadN X36.here hx rfl (hb hby at_65) rfl ?_
      show Steps p.tables e below (T36.setTop (mkF m 66 #[.val (.int p0), .val (.ref b1), .val (.int (1 : Int32)), .val (.ref u1), .unset] [(.int (1 : Int32))])) _
      refine XS.iconst X36.here hx rfl (hb hby at_66) ?_
      show Steps p.tables e below (T36.setTop (mkF m 67 #[.val (.int p0), .val (.ref b1), .val (.int (1 : Int32)), .val (.ref u1), .unset] [(.int (1 : Int32)), (.int (1 : Int32))])) _
      refine XS.icmpYes X36.here hx rfl (pc0 := 67) (pc' := 75) rfl (hb hby at_67) rfl (teq (rfl : (1 : Int32) = (1 : Int32))).1 (by decide) (by decide) ?_
      show Steps p.tables e below (T36.setTop (mkF m 75 #[.val (.int p0), .val (.ref b1), .val (.int (1 : Int32)), .val (.ref u1), .unset] [])) _
      refine XS.iconst X36.here hx rfl (hb hby at_75) ?_
      show Steps p.tables e below (T36.setTop (mkF m 76 #[.val (.int p0), .val (.ref b1), .val (.int (1 : Int32)), .val (.ref u1), .unset] [(.int (1 : Int32))])) _
      refine XS.goto X36.here hx rfl (pc0 := 76) (pc' := 80) rfl (hb hby at_76) (by decide) (by decide) ?_
      show Steps p.tables e below (T36.setTop (mkF m 80 #[.val (.int p0), .val (.ref b1), .val (.int (1 : Int32)), .val (.ref u1), .unset] [(.int (1 : Int32))])) _
      refine XS.istore X36.here hx rfl (hb hby at_80) rfl (l' := #[.val (.int p0), .val (.ref b1), .val (.int (1 : Int32)), .val (.ref u1), .val (.int (1 : Int32))]) rfl ?_
      show Steps p.tables e below (T36.setTop (mkF m 82 #[.val (.int p0), .val (.ref b1), .val (.int (1 : Int32)), .val (.ref u1), .val (.int (1 : Int32))] [])) _
      refine XS.aloadN X36.here hx rfl (hb hby at_82) rfl rfl ?_
      show Steps p.tables e below (T36.setTop (mkF m 83 #[.val (.int p0), .val (.ref b1), .val (.int (1 : Int32)), .val (.ref u1), .val (.int (1 : Int32))] [(.ref u1)])) _
      refine st47.trans ?_
      show Steps p.tables e below (T47.setTop (mkF m 86 #[.val (.int p0), .val (.ref b1), .val (.int (1 : Int32)), .val (.ref u1), .val (.int (1 : Int32))] [(.int (own_num u1 u0 u1 u2))])) _
      refine XS.iload X47.here hx rfl (hb hby at_86) rfl ?_
      show Steps p.tables e below (T47.setTop (mkF m 88 #[.val (.int p0), .val (.ref b1), .val (.int (1 : Int32)), .val (.ref u1), .val (.int (1 : Int32))] [(.int (1 : Int32)), (.int (own_num u1 u0 u1 u2))])) _
      refine XS.icmpNo X47.here hx rfl (hb hby at_88) rfl (teq (by rw [own_num, if_neg (Ne.symm ne_u0_u1), if_pos rfl] : (own_num u1 u0 u1 u2) = (1 : Int32))).2 ?_
      show Steps p.tables e below (T47.setTop (mkF m 91 #[.val (.int p0), .val (.ref b1), .val (.int (1 : Int32)), .val (.ref u1), .val (.int (1 : Int32))] [])) _
      refine XS.iconst X47.here hx rfl (hb hby at_91) ?_
      show Steps p.tables e below (T47.setTop (mkF m 92 #[.val (.int p0), .val (.ref b1), .val (.int (1 : Int32)), .val (.ref u1), .val (.int (1 : Int32))] [(.int (1 : Int32))])) _
      refine XS.goto X47.here hx rfl (pc0 := 92) (pc' := 96) rfl (hb hby at_92) (by decide) (by decide) ?_
      show Steps p.tables e below (T47.setTop (mkF m 96 #[.val (.int p0), .val (.ref b1), .val (.int (1 : Int32)), .val (.ref u1), .val (.int (1 : Int32))] [(.int (1 : Int32))])) _
      exact retN X47 hx (t := .boolean) Bd.returns (by simp) (hb hby at_96) hr
    · show rm0Q Z p0 h0 n0 _ T47.heap _
      rw [e47q]
      exact ⟨rfl, N47⟩
  · obtain ⟨cl53, Ar53, q53, S53, N53', H53, G53⟩ := id Vs36
    have hin53 : ¬ ((2 : Int32) < 0 ∨ cl53.slots.size ≤ ((2 : Int32)).toNatClampNeg) := inb_of S53 ⟨by decide, by decide⟩
    have Zz_55 : n0 ≤ h36.size := (Nat.le_trans (Nat.le_trans (Nat.le_trans (Nat.le_trans (Nat.le_trans (Nat.le_trans (Nat.le_trans (Nat.le_trans Z0 E1.1) (Keep.of_wr W6).1) (Keep.of_wr W11).1) (Keep.of_wr W16).1) (Keep.of_wr W21).1) (Keep.of_wr W26).1) (Keep.of_wr W31).1) (Keep.of_wr W36).1)
    have Ss_56 : Sta Z h36 "com/example/querent/querent/language/ValueType" "INTEGER" "Lcom/example/querent/querent/language/ValueType;" (.ref u0) := (((((((Ss_2.wr W6).wr W11).wr W16).wr W21).wr W26).wr W31).wr W36)
    have Ss_57 : Sta Z h36 "com/example/querent/querent/language/ValueType" "DECIMAL" "Lcom/example/querent/querent/language/ValueType;" (.ref u1) := ((((((Ss_7.wr W11).wr W16).wr W21).wr W26).wr W31).wr W36)
    have Ss_58 : Sta Z h36 "com/example/querent/querent/language/ValueType" "FLOAT" "Lcom/example/querent/querent/language/ValueType;" (.ref u2) := (((((Ss_12.wr W16).wr W21).wr W26).wr W31).wr W36)
    have Ee_59 : Exa Z h36 u2 "com/example/querent/querent/language/ValueType" := (((((Ee_15.wr W16).wr W21).wr W26).wr W31).wr W36)
    obtain ⟨cq54, kq54, q54a, q54b, q54c⟩ := isOf hZ e36 (Ee_59)
    obtain ⟨_, _, ⟨T54, L54, k54, n54⟩, -, X54, ⟨Lc54, hQ54, l54, y54, z54⟩, st54⟩ := X36.virtualBack hx (y := (⟨"com/example/querent/querent/language/ValueType", "isNumeric", "()Z"⟩ : MethodName)) (z := (⟨"com/example/querent/querent/language/ValueType", "isNumeric", "()Z"⟩ : MethodName)) hown (mvT hZ (hw _ (List.mem_of_getElem? (i := 19) rfl))) (mvT hZ (hw _ (List.mem_of_getElem? (i := 20) rfl))) (notFace_of_selects (args := #[]) (mvT hZ (hw _ (List.mem_of_getElem? (i := 22) rfl)))) (mvT hZ (hw _ (List.mem_of_getElem? (i := 22) rfl))) (mvT hZ (hw _ (List.mem_of_getElem? (i := 21) rfl))) (by decide) (backOf (W := 0) (rm1 l Z aw hw [] u2 u0 u1 u2 h36 n0 Zz_55 Ss_56 Ss_57 Ss_58) hZ (hw _ (List.mem_of_getElem? (i := 23) rfl)) (hw _ (List.mem_of_getElem? (i := 3) rfl)) (by decide) (by decide)) q54a q54c (g := (mkF m 83 #[.val (.int p0), .val (.ref b1), .val (.int (2 : Int32)), .val (.ref u2), .val (.int (1 : Int32))] [(.ref u2)])) rfl (by rw [hml]; rfl) (Steps.refl _) (argsL := []) (rest := []) (lenOf pd_rm0_0 rfl) rfl (by show 2 * 0 + _ ≤ _; exact Nat.le_of_eq rfl) (hb hby at_83) (fun _ _ => ⟨rfl, e36, (by decide : 1 + 0 ≤ _), (by decide : 7 + 0 ≤ _)⟩)
    dsimp only [Pt.U, Pt.locs, Pt.cells, Pt.slots] at X54 l54 y54 z54 st54 hQ54
    subst l54 y54 z54
    obtain ⟨rfl, N54q, e54q⟩ := hQ54
    have N54 := Fr.app N36 N54q
    obtain ⟨fs, hr, hrun, hended, hW, hsame⟩ := X54.leave (v := some (.int (1 : Int32))) (fun h => by rw [Bd.returns] at h; cases h)
    refine ⟨_, _, pre38 _ ?_, hrun, hended, _, _, rfl, ?_, ⟨_, rfl⟩, hW, hsame.mono (by decide) (by decide)⟩
    · show Steps p.tables e below (T36.setTop (mkF m 57 #[.val (.int p0), .val (.ref b1), .val (.int (2 : Int32)), .unset, .unset] [])) _
      refine XS.aloadN X36.here hx rfl (hb hby at_57) rfl rfl ?_
      show Steps p.tables e below (T36.setTop (mkF m 58 #[.val (.int p0), .val (.ref b1), .val (.int (2 : Int32)), .unset, .unset] [(.ref b1)])) _
      refine XS.iloadN X36.here hx rfl (hb hby at_58) rfl ?_
      show Steps p.tables e below (T36.setTop (mkF m 59 #[.val (.int p0), .val (.ref b1), .val (.int (2 : Int32)), .unset, .unset] [(.int (2 : Int32)), (.ref b1)])) _
      refine X36.aaload hx (j := (2 : Int32)) (v := (.ref u2)) (by rw [e36]; exact Ar53.1) (State.isArrayOf_alike hZ.alike Ar53.2.1) rfl Ar53.2.2 hin53 (H53.at hin53 rfl) (g := (mkF m 59 #[.val (.int p0), .val (.ref b1), .val (.int (2 : Int32)), .unset, .unset] [(.int (2 : Int32)), (.ref b1)])) rfl rfl (hb hby at_59) _ ?_
      show Steps p.tables e below (T36.setTop (mkF m 60 #[.val (.int p0), .val (.ref b1), .val (.int (2 : Int32)), .unset, .unset] [(.ref u2)])) _
      refine XS.astoreN X36.here hx rfl (hb hby at_60) rfl rfl (l' := #[.val (.int p0), .val (.ref b1), .val (.int (2 : Int32)), .val (.ref u2), .unset]) rfl ?_
      show Steps p.tables e below (T36.setTop (mkF m 61 #[.val (.int p0), .val (.ref b1), .val (.int (2 : Int32)), .val (.ref u2), .unset] [])) _
      refine XS.iloadN X36.here hx rfl (hb hby at_61) rfl ?_
      show Steps p.tables e below (T36.setTop (mkF m 62 #[.val (.int p0), .val (.ref b1), .val (.int (2 : Int32)), .val (.ref u2), .unset] [(.int (2 : Int32))])) _
      refine XS.ifNo X36.here hx rfl (hb hby at_62) rfl ((if0 _ _).trans (feq ((by decide) : ¬ ((2 : Int32) = (0 : Int32)))).1) ?_
      show Steps p.tables e below (T36.setTop (mkF m 65 #[.val (.int p0), .val (.ref b1), .val (.int (2 : Int32)), .val (.ref u2), .unset] [])) _
      refine XS.iloadN X36.here hx rfl (hb hby at_65) rfl ?_
      show Steps p.tables e below (T36.setTop (mkF m 66 #[.val (.int p0), .val (.ref b1), .val (.int (2 : Int32)), .val (.ref u2), .unset] [(.int (2 : Int32))])) _
      refine XS.iconst X36.here hx rfl (hb hby at_66) ?_
      show Steps p.tables e below (T36.setTop (mkF m 67 #[.val (.int p0), .val (.ref b1), .val (.int (2 : Int32)), .val (.ref u2), .unset] [(.int (1 : Int32)), (.int (2 : Int32))])) _
      refine XS.icmpNo X36.here hx rfl (hb hby at_67) rfl (feq ((by decide) : ¬ ((2 : Int32) = (1 : Int32)))).1 ?_
      show Steps p.tables e below (T36.setTop (mkF m 70 #[.val (.int p0), .val (.ref b1), .val (.int (2 : Int32)), .val (.ref u2), .unset] [])) _
      refine XS.iloadN X36.here hx rfl (hb hby at_70) rfl ?_
      show Steps p.tables e below (T36.setTop (mkF m 71 #[.val (.int p0), .val (.ref b1), .val (.int (2 : Int32)), .val (.ref u2), .unset] [(.int (2 : Int32))])) _
      refine XS.iconst X36.here hx rfl (hb hby at_71) ?_
      show Steps p.tables e below (T36.setTop (mkF m 72 #[.val (.int p0), .val (.ref b1), .val (.int (2 : Int32)), .val (.ref u2), .unset] [(.int (2 : Int32)), (.int (2 : Int32))])) _
      refine XS.icmpNo X36.here hx rfl (hb hby at_72) rfl (teq (rfl : (2 : Int32) = (2 : Int32))).2 ?_
      show Steps p.tables e below (T36.setTop (mkF m 75 #[.val (.int p0), .val (.ref b1), .val (.int (2 : Int32)), .val (.ref u2), .unset] [])) _
      refine XS.iconst X36.here hx rfl (hb hby at_75) ?_
      show Steps p.tables e below (T36.setTop (mkF m 76 #[.val (.int p0), .val (.ref b1), .val (.int (2 : Int32)), .val (.ref u2), .unset] [(.int (1 : Int32))])) _
      refine XS.goto X36.here hx rfl (pc0 := 76) (pc' := 80) rfl (hb hby at_76) (by decide) (by decide) ?_
      show Steps p.tables e below (T36.setTop (mkF m 80 #[.val (.int p0), .val (.ref b1), .val (.int (2 : Int32)), .val (.ref u2), .unset] [(.int (1 : Int32))])) _
      refine XS.istore X36.here hx rfl (hb hby at_80) rfl (l' := #[.val (.int p0), .val (.ref b1), .val (.int (2 : Int32)), .val (.ref u2), .val (.int (1 : Int32))]) rfl ?_
      show Steps p.tables e below (T36.setTop (mkF m 82 #[.val (.int p0), .val (.ref b1), .val (.int (2 : Int32)), .val (.ref u2), .val (.int (1 : Int32))] [])) _
      refine XS.aloadN X36.here hx rfl (hb hby at_82) rfl rfl ?_
      show Steps p.tables e below (T36.setTop (mkF m 83 #[.val (.int p0), .val (.ref b1), .val (.int (2 : Int32)), .val (.ref u2), .val (.int (1 : Int32))] [(.ref u2)])) _
      refine st54.trans ?_
      show Steps p.tables e below (T54.setTop (mkF m 86 #[.val (.int p0), .val (.ref b1), .val (.int (2 : Int32)), .val (.ref u2), .val (.int (1 : Int32))] [(.int (own_num u2 u0 u1 u2))])) _
      refine XS.iload X54.here hx rfl (hb hby at_86) rfl ?_
      show Steps p.tables e below (T54.setTop (mkF m 88 #[.val (.int p0), .val (.ref b1), .val (.int (2 : Int32)), .val (.ref u2), .val (.int (1 : Int32))] [(.int (1 : Int32)), (.int (own_num u2 u0 u1 u2))])) _
      refine XS.icmpNo X54.here hx rfl (hb hby at_88) rfl (teq (by rw [own_num, if_neg (Ne.symm ne_u0_u2), if_neg (Ne.symm ne_u1_u2), if_pos rfl] : (own_num u2 u0 u1 u2) = (1 : Int32))).2 ?_
      show Steps p.tables e below (T54.setTop (mkF m 91 #[.val (.int p0), .val (.ref b1), .val (.int (2 : Int32)), .val (.ref u2), .val (.int (1 : Int32))] [])) _
      refine XS.iconst X54.here hx rfl (hb hby at_91) ?_
      show Steps p.tables e below (T54.setTop (mkF m 92 #[.val (.int p0), .val (.ref b1), .val (.int (2 : Int32)), .val (.ref u2), .val (.int (1 : Int32))] [(.int (1 : Int32))])) _
      refine XS.goto X54.here hx rfl (pc0 := 92) (pc' := 96) rfl (hb hby at_92) (by decide) (by decide) ?_
      show Steps p.tables e below (T54.setTop (mkF m 96 #[.val (.int p0), .val (.ref b1), .val (.int (2 : Int32)), .val (.ref u2), .val (.int (1 : Int32))] [(.int (1 : Int32))])) _
      exact retN X54 hx (t := .boolean) Bd.returns (by simp) (hb hby at_96) hr
    · show rm0Q Z p0 h0 n0 _ T54.heap _
      rw [e54q]
      exact ⟨rfl, N54⟩
  · obtain ⟨cl60, Ar60, q60, S60, N60', H60, G60⟩ := id Vs36
    have hin60 : ¬ ((3 : Int32) < 0 ∨ cl60.slots.size ≤ ((3 : Int32)).toNatClampNeg) := inb_of S60 ⟨by decide, by decide⟩
    have Zz_62 : n0 ≤ h36.size := (Nat.le_trans (Nat.le_trans (Nat.le_trans (Nat.le_trans (Nat.le_trans (Nat.le_trans (Nat.le_trans (Nat.le_trans Z0 E1.1) (Keep.of_wr W6).1) (Keep.of_wr W11).1) (Keep.of_wr W16).1) (Keep.of_wr W21).1) (Keep.of_wr W26).1) (Keep.of_wr W31).1) (Keep.of_wr W36).1)
    have Ss_63 : Sta Z h36 "com/example/querent/querent/language/ValueType" "INTEGER" "Lcom/example/querent/querent/language/ValueType;" (.ref u0) := (((((((Ss_2.wr W6).wr W11).wr W16).wr W21).wr W26).wr W31).wr W36)
    have Ss_64 : Sta Z h36 "com/example/querent/querent/language/ValueType" "DECIMAL" "Lcom/example/querent/querent/language/ValueType;" (.ref u1) := ((((((Ss_7.wr W11).wr W16).wr W21).wr W26).wr W31).wr W36)
    have Ss_65 : Sta Z h36 "com/example/querent/querent/language/ValueType" "FLOAT" "Lcom/example/querent/querent/language/ValueType;" (.ref u2) := (((((Ss_12.wr W16).wr W21).wr W26).wr W31).wr W36)
    have Ee_66 : Exa Z h36 u3 "com/example/querent/querent/language/ValueType" := ((((Ee_20.wr W21).wr W26).wr W31).wr W36)
    obtain ⟨cq61, kq61, q61a, q61b, q61c⟩ := isOf hZ e36 (Ee_66)
    obtain ⟨_, _, ⟨T61, L61, k61, n61⟩, -, X61, ⟨Lc61, hQ61, l61, y61, z61⟩, st61⟩ := X36.virtualBack hx (y := (⟨"com/example/querent/querent/language/ValueType", "isNumeric", "()Z"⟩ : MethodName)) (z := (⟨"com/example/querent/querent/language/ValueType", "isNumeric", "()Z"⟩ : MethodName)) hown (mvT hZ (hw _ (List.mem_of_getElem? (i := 19) rfl))) (mvT hZ (hw _ (List.mem_of_getElem? (i := 20) rfl))) (notFace_of_selects (args := #[]) (mvT hZ (hw _ (List.mem_of_getElem? (i := 22) rfl)))) (mvT hZ (hw _ (List.mem_of_getElem? (i := 22) rfl))) (mvT hZ (hw _ (List.mem_of_getElem? (i := 21) rfl))) (by decide) (backOf (W := 0) (rm1 l Z aw hw [] u3 u0 u1 u2 h36 n0 Zz_62 Ss_63 Ss_64 Ss_65) hZ (hw _ (List.mem_of_getElem? (i := 23) rfl)) (hw _ (List.mem_of_getElem? (i := 3) rfl)) (by decide) (by decide)) q61a q61c (g := (mkF m 83 #[.val (.int p0), .val (.ref b1), .val (.int (3 : Int32)), .val (.ref u3), .val (.int (0 : Int32))] [(.ref u3)])) rfl (by rw [hml]; rfl) (Steps.refl _) (argsL := []) (rest := []) (lenOf pd_rm0_0 rfl) rfl (by show 2 * 0 + _ ≤ _; exact Nat.le_of_eq rfl) (hb hby at_83) (fun _ _ => ⟨rfl, e36, (by decide : 1 + 0 ≤ _), (by decide : 7 + 0 ≤ _)⟩)
    dsimp only [Pt.U, Pt.locs, Pt.cells, Pt.slots] at X61 l61 y61 z61 st61 hQ61
    subst l61 y61 z61
    obtain ⟨rfl, N61q, e61q⟩ := hQ61
    have N61 := Fr.app N36 N61q
    obtain ⟨fs, hr, hrun, hended, hW, hsame⟩ := X61.leave (v := some (.int (1 : Int32))) (fun h => by rw [Bd.returns] at h; cases h)
    refine ⟨_, _, pre38 _ ?_, hrun, hended, _, _, rfl, ?_, ⟨_, rfl⟩, hW, hsame.mono (by decide) (by decide)⟩
    · show Steps p.tables e below (T36.setTop (mkF m 57 #[.val (.int p0), .val (.ref b1), .val (.int (3 : Int32)), .unset, .unset] [])) _
      refine XS.aloadN X36.here hx rfl (hb hby at_57) rfl rfl ?_
      show Steps p.tables e below (T36.setTop (mkF m 58 #[.val (.int p0), .val (.ref b1), .val (.int (3 : Int32)), .unset, .unset] [(.ref b1)])) _
      refine XS.iloadN X36.here hx rfl (hb hby at_58) rfl ?_
      show Steps p.tables e below (T36.setTop (mkF m 59 #[.val (.int p0), .val (.ref b1), .val (.int (3 : Int32)), .unset, .unset] [(.int (3 : Int32)), (.ref b1)])) _
      refine X36.aaload hx (j := (3 : Int32)) (v := (.ref u3)) (by rw [e36]; exact Ar60.1) (State.isArrayOf_alike hZ.alike Ar60.2.1) rfl Ar60.2.2 hin60 (H60.at hin60 rfl) (g := (mkF m 59 #[.val (.int p0), .val (.ref b1), .val (.int (3 : Int32)), .unset, .unset] [(.int (3 : Int32)), (.ref b1)])) rfl rfl (hb hby at_59) _ ?_
      show Steps p.tables e below (T36.setTop (mkF m 60 #[.val (.int p0), .val (.ref b1), .val (.int (3 : Int32)), .unset, .unset] [(.ref u3)])) _
      refine XS.astoreN X36.here hx rfl (hb hby at_60) rfl rfl (l' := #[.val (.int p0), .val (.ref b1), .val (.int (3 : Int32)), .val (.ref u3), .unset]) rfl ?_
      show Steps p.tables e below (T36.setTop (mkF m 61 #[.val (.int p0), .val (.ref b1), .val (.int (3 : Int32)), .val (.ref u3), .unset] [])) _
      refine XS.iloadN X36.here hx rfl (hb hby at_61) rfl ?_
      show Steps p.tables e below (T36.setTop (mkF m 62 #[.val (.int p0), .val (.ref b1), .val (.int (3 : Int32)), .val (.ref u3), .unset] [(.int (3 : Int32))])) _
      refine XS.ifNo X36.here hx rfl (hb hby at_62) rfl ((if0 _ _).trans (feq ((by decide) : ¬ ((3 : Int32) = (0 : Int32)))).1) ?_
      show Steps p.tables e below (T36.setTop (mkF m 65 #[.val (.int p0), .val (.ref b1), .val (.int (3 : Int32)), .val (.ref u3), .unset] [])) _
      refine XS.iloadN X36.here hx rfl (hb hby at_65) rfl ?_
      show Steps p.tables e below (T36.setTop (mkF m 66 #[.val (.int p0), .val (.ref b1), .val (.int (3 : Int32)), .val (.ref u3), .unset] [(.int (3 : Int32))])) _
      refine XS.iconst X36.here hx rfl (hb hby at_66) ?_
      show Steps p.tables e below (T36.setTop (mkF m 67 #[.val (.int p0), .val (.ref b1), .val (.int (3 : Int32)), .val (.ref u3), .unset] [(.int (1 : Int32)), (.int (3 : Int32))])) _
      refine XS.icmpNo X36.here hx rfl (hb hby at_67) rfl (feq ((by decide) : ¬ ((3 : Int32) = (1 : Int32)))).1 ?_
      show Steps p.tables e below (T36.setTop (mkF m 70 #[.val (.int p0), .val (.ref b1), .val (.int (3 : Int32)), .val (.ref u3), .unset] [])) _
      refine XS.iloadN X36.here hx rfl (hb hby at_70) rfl ?_
      show Steps p.tables e below (T36.setTop (mkF m 71 #[.val (.int p0), .val (.ref b1), .val (.int (3 : Int32)), .val (.ref u3), .unset] [(.int (3 : Int32))])) _
      refine XS.iconst X36.here hx rfl (hb hby at_71) ?_
      show Steps p.tables e below (T36.setTop (mkF m 72 #[.val (.int p0), .val (.ref b1), .val (.int (3 : Int32)), .val (.ref u3), .unset] [(.int (2 : Int32)), (.int (3 : Int32))])) _
      refine XS.icmpYes X36.here hx rfl (pc0 := 72) (pc' := 79) rfl (hb hby at_72) rfl (feq ((by decide) : ¬ ((3 : Int32) = (2 : Int32)))).2 (by decide) (by decide) ?_
      show Steps p.tables e below (T36.setTop (mkF m 79 #[.val (.int p0), .val (.ref b1), .val (.int (3 : Int32)), .val (.ref u3), .unset] [])) _
      refine XS.iconst X36.here hx rfl (hb hby at_79) ?_
      show Steps p.tables e below (T36.setTop (mkF m 80 #[.val (.int p0), .val (.ref b1), .val (.int (3 : Int32)), .val (.ref u3), .unset] [(.int (0 : Int32))])) _
      refine XS.istore X36.here hx rfl (hb hby at_80) rfl (l' := #[.val (.int p0), .val (.ref b1), .val (.int (3 : Int32)), .val (.ref u3), .val (.int (0 : Int32))]) rfl ?_
      show Steps p.tables e below (T36.setTop (mkF m 82 #[.val (.int p0), .val (.ref b1), .val (.int (3 : Int32)), .val (.ref u3), .val (.int (0 : Int32))] [])) _
      refine XS.aloadN X36.here hx rfl (hb hby at_82) rfl rfl ?_
      show Steps p.tables e below (T36.setTop (mkF m 83 #[.val (.int p0), .val (.ref b1), .val (.int (3 : Int32)), .val (.ref u3), .val (.int (0 : Int32))] [(.ref u3)])) _
      refine st61.trans ?_
      show Steps p.tables e below (T61.setTop (mkF m 86 #[.val (.int p0), .val (.ref b1), .val (.int (3 : Int32)), .val (.ref u3), .val (.int (0 : Int32))] [(.int (own_num u3 u0 u1 u2))])) _
      refine XS.iload X61.here hx rfl (hb hby at_86) rfl ?_
      show Steps p.tables e below (T61.setTop (mkF m 88 #[.val (.int p0), .val (.ref b1), .val (.int (3 : Int32)), .val (.ref u3), .val (.int (0 : Int32))] [(.int (0 : Int32)), (.int (own_num u3 u0 u1 u2))])) _
      refine XS.icmpNo X61.here hx rfl (hb hby at_88) rfl (teq (by rw [own_num, if_neg (Ne.symm ne_u0_u3), if_neg (Ne.symm ne_u1_u3), if_neg (Ne.symm ne_u2_u3)] : (own_num u3 u0 u1 u2) = (0 : Int32))).2 ?_
      show Steps p.tables e below (T61.setTop (mkF m 91 #[.val (.int p0), .val (.ref b1), .val (.int (3 : Int32)), .val (.ref u3), .val (.int (0 : Int32))] [])) _
      refine XS.iconst X61.here hx rfl (hb hby at_91) ?_
      show Steps p.tables e below (T61.setTop (mkF m 92 #[.val (.int p0), .val (.ref b1), .val (.int (3 : Int32)), .val (.ref u3), .val (.int (0 : Int32))] [(.int (1 : Int32))])) _
      refine XS.goto X61.here hx rfl (pc0 := 92) (pc' := 96) rfl (hb hby at_92) (by decide) (by decide) ?_
      show Steps p.tables e below (T61.setTop (mkF m 96 #[.val (.int p0), .val (.ref b1), .val (.int (3 : Int32)), .val (.ref u3), .val (.int (0 : Int32))] [(.int (1 : Int32))])) _
      exact retN X61 hx (t := .boolean) Bd.returns (by simp) (hb hby at_96) hr
    · show rm0Q Z p0 h0 n0 _ T61.heap _
      rw [e61q]
      exact ⟨rfl, N61⟩
  · obtain ⟨cl67, Ar67, q67, S67, N67', H67, G67⟩ := id Vs36
    have hin67 : ¬ ((4 : Int32) < 0 ∨ cl67.slots.size ≤ ((4 : Int32)).toNatClampNeg) := inb_of S67 ⟨by decide, by decide⟩
    have Zz_69 : n0 ≤ h36.size := (Nat.le_trans (Nat.le_trans (Nat.le_trans (Nat.le_trans (Nat.le_trans (Nat.le_trans (Nat.le_trans (Nat.le_trans Z0 E1.1) (Keep.of_wr W6).1) (Keep.of_wr W11).1) (Keep.of_wr W16).1) (Keep.of_wr W21).1) (Keep.of_wr W26).1) (Keep.of_wr W31).1) (Keep.of_wr W36).1)
    have Ss_70 : Sta Z h36 "com/example/querent/querent/language/ValueType" "INTEGER" "Lcom/example/querent/querent/language/ValueType;" (.ref u0) := (((((((Ss_2.wr W6).wr W11).wr W16).wr W21).wr W26).wr W31).wr W36)
    have Ss_71 : Sta Z h36 "com/example/querent/querent/language/ValueType" "DECIMAL" "Lcom/example/querent/querent/language/ValueType;" (.ref u1) := ((((((Ss_7.wr W11).wr W16).wr W21).wr W26).wr W31).wr W36)
    have Ss_72 : Sta Z h36 "com/example/querent/querent/language/ValueType" "FLOAT" "Lcom/example/querent/querent/language/ValueType;" (.ref u2) := (((((Ss_12.wr W16).wr W21).wr W26).wr W31).wr W36)
    have Ee_73 : Exa Z h36 u4 "com/example/querent/querent/language/ValueType" := (((Ee_25.wr W26).wr W31).wr W36)
    obtain ⟨cq68, kq68, q68a, q68b, q68c⟩ := isOf hZ e36 (Ee_73)
    obtain ⟨_, _, ⟨T68, L68, k68, n68⟩, -, X68, ⟨Lc68, hQ68, l68, y68, z68⟩, st68⟩ := X36.virtualBack hx (y := (⟨"com/example/querent/querent/language/ValueType", "isNumeric", "()Z"⟩ : MethodName)) (z := (⟨"com/example/querent/querent/language/ValueType", "isNumeric", "()Z"⟩ : MethodName)) hown (mvT hZ (hw _ (List.mem_of_getElem? (i := 19) rfl))) (mvT hZ (hw _ (List.mem_of_getElem? (i := 20) rfl))) (notFace_of_selects (args := #[]) (mvT hZ (hw _ (List.mem_of_getElem? (i := 22) rfl)))) (mvT hZ (hw _ (List.mem_of_getElem? (i := 22) rfl))) (mvT hZ (hw _ (List.mem_of_getElem? (i := 21) rfl))) (by decide) (backOf (W := 0) (rm1 l Z aw hw [] u4 u0 u1 u2 h36 n0 Zz_69 Ss_70 Ss_71 Ss_72) hZ (hw _ (List.mem_of_getElem? (i := 23) rfl)) (hw _ (List.mem_of_getElem? (i := 3) rfl)) (by decide) (by decide)) q68a q68c (g := (mkF m 83 #[.val (.int p0), .val (.ref b1), .val (.int (4 : Int32)), .val (.ref u4), .val (.int (0 : Int32))] [(.ref u4)])) rfl (by rw [hml]; rfl) (Steps.refl _) (argsL := []) (rest := []) (lenOf pd_rm0_0 rfl) rfl (by show 2 * 0 + _ ≤ _; exact Nat.le_of_eq rfl) (hb hby at_83) (fun _ _ => ⟨rfl, e36, (by decide : 1 + 0 ≤ _), (by decide : 7 + 0 ≤ _)⟩)
    dsimp only [Pt.U, Pt.locs, Pt.cells, Pt.slots] at X68 l68 y68 z68 st68 hQ68
    subst l68 y68 z68
    obtain ⟨rfl, N68q, e68q⟩ := hQ68
    have N68 := Fr.app N36 N68q
    obtain ⟨fs, hr, hrun, hended, hW, hsame⟩ := X68.leave (v := some (.int (1 : Int32))) (fun h => by rw [Bd.returns] at h; cases h)
    refine ⟨_, _, pre38 _ ?_, hrun, hended, _, _, rfl, ?_, ⟨_, rfl⟩, hW, hsame.mono (by decide) (by decide)⟩
    · show Steps p.tables e below (T36.setTop (mkF m 57 #[.val (.int p0), .val (.ref b1), .val (.int (4 : Int32)), .unset, .unset] [])) _
      refine XS.aloadN X36.here hx rfl (hb hby at_57) rfl rfl ?_
      show Steps p.tables e below (T36.setTop (mkF m 58 #[.val (.int p0), .val (.ref b1), .val (.int (4 : Int32)), .unset, .unset] [(.ref b1)])) _
      refine XS.iloadN X36.here hx rfl (hb hby at_58) rfl ?_
      show Steps p.tables e below (T36.setTop (mkF m 59 #[.val (.int p0), .val (.ref b1), .val (.int (4 : Int32)), .unset, .unset] [(.int (4 : Int32)), (.ref b1)])) _
      refine X36.aaload hx (j := (4 : Int32)) (v := (.ref u4)) (by rw [e36]; exact Ar67.1) (State.isArrayOf_alike hZ.alike Ar67.2.1) rfl Ar67.2.2 hin67 (H67.at hin67 rfl) (g := (mkF m 59 #[.val (.int p0), .val (.ref b1), .val (.int (4 : Int32)), .unset, .unset] [(.int (4 : Int32)), (.ref b1)])) rfl rfl (hb hby at_59) _ ?_
      show Steps p.tables e below (T36.setTop (mkF m 60 #[.val (.int p0), .val (.ref b1), .val (.int (4 : Int32)), .unset, .unset] [(.ref u4)])) _
      refine XS.astoreN X36.here hx rfl (hb hby at_60) rfl rfl (l' := #[.val (.int p0), .val (.ref b1), .val (.int (4 : Int32)), .val (.ref u4), .unset]) rfl ?_
      show Steps p.tables e below (T36.setTop (mkF m 61 #[.val (.int p0), .val (.ref b1), .val (.int (4 : Int32)), .val (.ref u4), .unset] [])) _
      refine XS.iloadN X36.here hx rfl (hb hby at_61) rfl ?_
      show Steps p.tables e below (T36.setTop (mkF m 62 #[.val (.int p0), .val (.ref b1), .val (.int (4 : Int32)), .val (.ref u4), .unset] [(.int (4 : Int32))])) _
      refine XS.ifNo X36.here hx rfl (hb hby at_62) rfl ((if0 _ _).trans (feq ((by decide) : ¬ ((4 : Int32) = (0 : Int32)))).1) ?_
      show Steps p.tables e below (T36.setTop (mkF m 65 #[.val (.int p0), .val (.ref b1), .val (.int (4 : Int32)), .val (.ref u4), .unset] [])) _
      refine XS.iloadN X36.here hx rfl (hb hby at_65) rfl ?_
      show Steps p.tables e below (T36.setTop (mkF m 66 #[.val (.int p0), .val (.ref b1), .val (.int (4 : Int32)), .val (.ref u4), .unset] [(.int (4 : Int32))])) _
      refine XS.iconst X36.here hx rfl (hb hby at_66) ?_
      show Steps p.tables e below (T36.setTop (mkF m 67 #[.val (.int p0), .val (.ref b1), .val (.int (4 : Int32)), .val (.ref u4), .unset] [(.int (1 : Int32)), (.int (4 : Int32))])) _
      refine XS.icmpNo X36.here hx rfl (hb hby at_67) rfl (feq ((by decide) : ¬ ((4 : Int32) = (1 : Int32)))).1 ?_
      show Steps p.tables e below (T36.setTop (mkF m 70 #[.val (.int p0), .val (.ref b1), .val (.int (4 : Int32)), .val (.ref u4), .unset] [])) _
      refine XS.iloadN X36.here hx rfl (hb hby at_70) rfl ?_
      show Steps p.tables e below (T36.setTop (mkF m 71 #[.val (.int p0), .val (.ref b1), .val (.int (4 : Int32)), .val (.ref u4), .unset] [(.int (4 : Int32))])) _
      refine XS.iconst X36.here hx rfl (hb hby at_71) ?_
      show Steps p.tables e below (T36.setTop (mkF m 72 #[.val (.int p0), .val (.ref b1), .val (.int (4 : Int32)), .val (.ref u4), .unset] [(.int (2 : Int32)), (.int (4 : Int32))])) _
      refine XS.icmpYes X36.here hx rfl (pc0 := 72) (pc' := 79) rfl (hb hby at_72) rfl (feq ((by decide) : ¬ ((4 : Int32) = (2 : Int32)))).2 (by decide) (by decide) ?_
      show Steps p.tables e below (T36.setTop (mkF m 79 #[.val (.int p0), .val (.ref b1), .val (.int (4 : Int32)), .val (.ref u4), .unset] [])) _
      refine XS.iconst X36.here hx rfl (hb hby at_79) ?_
      show Steps p.tables e below (T36.setTop (mkF m 80 #[.val (.int p0), .val (.ref b1), .val (.int (4 : Int32)), .val (.ref u4), .unset] [(.int (0 : Int32))])) _
      refine XS.istore X36.here hx rfl (hb hby at_80) rfl (l' := #[.val (.int p0), .val (.ref b1), .val (.int (4 : Int32)), .val (.ref u4), .val (.int (0 : Int32))]) rfl ?_
      show Steps p.tables e below (T36.setTop (mkF m 82 #[.val (.int p0), .val (.ref b1), .val (.int (4 : Int32)), .val (.ref u4), .val (.int (0 : Int32))] [])) _
      refine XS.aloadN X36.here hx rfl (hb hby at_82) rfl rfl ?_
      show Steps p.tables e below (T36.setTop (mkF m 83 #[.val (.int p0), .val (.ref b1), .val (.int (4 : Int32)), .val (.ref u4), .val (.int (0 : Int32))] [(.ref u4)])) _
      refine st68.trans ?_
      show Steps p.tables e below (T68.setTop (mkF m 86 #[.val (.int p0), .val (.ref b1), .val (.int (4 : Int32)), .val (.ref u4), .val (.int (0 : Int32))] [(.int (own_num u4 u0 u1 u2))])) _
      refine XS.iload X68.here hx rfl (hb hby at_86) rfl ?_
      show Steps p.tables e below (T68.setTop (mkF m 88 #[.val (.int p0), .val (.ref b1), .val (.int (4 : Int32)), .val (.ref u4), .val (.int (0 : Int32))] [(.int (0 : Int32)), (.int (own_num u4 u0 u1 u2))])) _
      refine XS.icmpNo X68.here hx rfl (hb hby at_88) rfl (teq (by rw [own_num, if_neg (Ne.symm ne_u0_u4), if_neg (Ne.symm ne_u1_u4), if_neg (Ne.symm ne_u2_u4)] : (own_num u4 u0 u1 u2) = (0 : Int32))).2 ?_
      show Steps p.tables e below (T68.setTop (mkF m 91 #[.val (.int p0), .val (.ref b1), .val (.int (4 : Int32)), .val (.ref u4), .val (.int (0 : Int32))] [])) _
      refine XS.iconst X68.here hx rfl (hb hby at_91) ?_
      show Steps p.tables e below (T68.setTop (mkF m 92 #[.val (.int p0), .val (.ref b1), .val (.int (4 : Int32)), .val (.ref u4), .val (.int (0 : Int32))] [(.int (1 : Int32))])) _
      refine XS.goto X68.here hx rfl (pc0 := 92) (pc' := 96) rfl (hb hby at_92) (by decide) (by decide) ?_
      show Steps p.tables e below (T68.setTop (mkF m 96 #[.val (.int p0), .val (.ref b1), .val (.int (4 : Int32)), .val (.ref u4), .val (.int (0 : Int32))] [(.int (1 : Int32))])) _
      exact retN X68 hx (t := .boolean) Bd.returns (by simp) (hb hby at_96) hr
    · show rm0Q Z p0 h0 n0 _ T68.heap _
      rw [e68q]
      exact ⟨rfl, N68⟩
  · obtain ⟨cl74, Ar74, q74, S74, N74', H74, G74⟩ := id Vs36
    have hin74 : ¬ ((5 : Int32) < 0 ∨ cl74.slots.size ≤ ((5 : Int32)).toNatClampNeg) := inb_of S74 ⟨by decide, by decide⟩
    have Zz_76 : n0 ≤ h36.size := (Nat.le_trans (Nat.le_trans (Nat.le_trans (Nat.le_trans (Nat.le_trans (Nat.le_trans (Nat.le_trans (Nat.le_trans Z0 E1.1) (Keep.of_wr W6).1) (Keep.of_wr W11).1) (Keep.of_wr W16).1) (Keep.of_wr W21).1) (Keep.of_wr W26).1) (Keep.of_wr W31).1) (Keep.of_wr W36).1)
    have Ss_77 : Sta Z h36 "com/example/querent/querent/language/ValueType" "INTEGER" "Lcom/example/querent/querent/language/ValueType;" (.ref u0) := (((((((Ss_2.wr W6).wr W11).wr W16).wr W21).wr W26).wr W31).wr W36)
    have Ss_78 : Sta Z h36 "com/example/querent/querent/language/ValueType" "DECIMAL" "Lcom/example/querent/querent/language/ValueType;" (.ref u1) := ((((((Ss_7.wr W11).wr W16).wr W21).wr W26).wr W31).wr W36)
    have Ss_79 : Sta Z h36 "com/example/querent/querent/language/ValueType" "FLOAT" "Lcom/example/querent/querent/language/ValueType;" (.ref u2) := (((((Ss_12.wr W16).wr W21).wr W26).wr W31).wr W36)
    have Ee_80 : Exa Z h36 u5 "com/example/querent/querent/language/ValueType" := ((Ee_30.wr W31).wr W36)
    obtain ⟨cq75, kq75, q75a, q75b, q75c⟩ := isOf hZ e36 (Ee_80)
    obtain ⟨_, _, ⟨T75, L75, k75, n75⟩, -, X75, ⟨Lc75, hQ75, l75, y75, z75⟩, st75⟩ := X36.virtualBack hx (y := (⟨"com/example/querent/querent/language/ValueType", "isNumeric", "()Z"⟩ : MethodName)) (z := (⟨"com/example/querent/querent/language/ValueType", "isNumeric", "()Z"⟩ : MethodName)) hown (mvT hZ (hw _ (List.mem_of_getElem? (i := 19) rfl))) (mvT hZ (hw _ (List.mem_of_getElem? (i := 20) rfl))) (notFace_of_selects (args := #[]) (mvT hZ (hw _ (List.mem_of_getElem? (i := 22) rfl)))) (mvT hZ (hw _ (List.mem_of_getElem? (i := 22) rfl))) (mvT hZ (hw _ (List.mem_of_getElem? (i := 21) rfl))) (by decide) (backOf (W := 0) (rm1 l Z aw hw [] u5 u0 u1 u2 h36 n0 Zz_76 Ss_77 Ss_78 Ss_79) hZ (hw _ (List.mem_of_getElem? (i := 23) rfl)) (hw _ (List.mem_of_getElem? (i := 3) rfl)) (by decide) (by decide)) q75a q75c (g := (mkF m 83 #[.val (.int p0), .val (.ref b1), .val (.int (5 : Int32)), .val (.ref u5), .val (.int (0 : Int32))] [(.ref u5)])) rfl (by rw [hml]; rfl) (Steps.refl _) (argsL := []) (rest := []) (lenOf pd_rm0_0 rfl) rfl (by show 2 * 0 + _ ≤ _; exact Nat.le_of_eq rfl) (hb hby at_83) (fun _ _ => ⟨rfl, e36, (by decide : 1 + 0 ≤ _), (by decide : 7 + 0 ≤ _)⟩)
    dsimp only [Pt.U, Pt.locs, Pt.cells, Pt.slots] at X75 l75 y75 z75 st75 hQ75
    subst l75 y75 z75
    obtain ⟨rfl, N75q, e75q⟩ := hQ75
    have N75 := Fr.app N36 N75q
    obtain ⟨fs, hr, hrun, hended, hW, hsame⟩ := X75.leave (v := some (.int (1 : Int32))) (fun h => by rw [Bd.returns] at h; cases h)
    refine ⟨_, _, pre38 _ ?_, hrun, hended, _, _, rfl, ?_, ⟨_, rfl⟩, hW, hsame.mono (by decide) (by decide)⟩
    · show Steps p.tables e below (T36.setTop (mkF m 57 #[.val (.int p0), .val (.ref b1), .val (.int (5 : Int32)), .unset, .unset] [])) _
      refine XS.aloadN X36.here hx rfl (hb hby at_57) rfl rfl ?_
      show Steps p.tables e below (T36.setTop (mkF m 58 #[.val (.int p0), .val (.ref b1), .val (.int (5 : Int32)), .unset, .unset] [(.ref b1)])) _
      refine XS.iloadN X36.here hx rfl (hb hby at_58) rfl ?_
      show Steps p.tables e below (T36.setTop (mkF m 59 #[.val (.int p0), .val (.ref b1), .val (.int (5 : Int32)), .unset, .unset] [(.int (5 : Int32)), (.ref b1)])) _
      refine X36.aaload hx (j := (5 : Int32)) (v := (.ref u5)) (by rw [e36]; exact Ar74.1) (State.isArrayOf_alike hZ.alike Ar74.2.1) rfl Ar74.2.2 hin74 (H74.at hin74 rfl) (g := (mkF m 59 #[.val (.int p0), .val (.ref b1), .val (.int (5 : Int32)), .unset, .unset] [(.int (5 : Int32)), (.ref b1)])) rfl rfl (hb hby at_59) _ ?_
      show Steps p.tables e below (T36.setTop (mkF m 60 #[.val (.int p0), .val (.ref b1), .val (.int (5 : Int32)), .unset, .unset] [(.ref u5)])) _
      refine XS.astoreN X36.here hx rfl (hb hby at_60) rfl rfl (l' := #[.val (.int p0), .val (.ref b1), .val (.int (5 : Int32)), .val (.ref u5), .unset]) rfl ?_
      show Steps p.tables e below (T36.setTop (mkF m 61 #[.val (.int p0), .val (.ref b1), .val (.int (5 : Int32)), .val (.ref u5), .unset] [])) _
      refine XS.iloadN X36.here hx rfl (hb hby at_61) rfl ?_
      show Steps p.tables e below (T36.setTop (mkF m 62 #[.val (.int p0), .val (.ref b1), .val (.int (5 : Int32)), .val (.ref u5), .unset] [(.int (5 : Int32))])) _
      refine XS.ifNo X36.here hx rfl (hb hby at_62) rfl ((if0 _ _).trans (feq ((by decide) : ¬ ((5 : Int32) = (0 : Int32)))).1) ?_
      show Steps p.tables e below (T36.setTop (mkF m 65 #[.val (.int p0), .val (.ref b1), .val (.int (5 : Int32)), .val (.ref u5), .unset] [])) _
      refine XS.iloadN X36.here hx rfl (hb hby at_65) rfl ?_
      show Steps p.tables e below (T36.setTop (mkF m 66 #[.val (.int p0), .val (.ref b1), .val (.int (5 : Int32)), .val (.ref u5), .unset] [(.int (5 : Int32))])) _
      refine XS.iconst X36.here hx rfl (hb hby at_66) ?_
      show Steps p.tables e below (T36.setTop (mkF m 67 #[.val (.int p0), .val (.ref b1), .val (.int (5 : Int32)), .val (.ref u5), .unset] [(.int (1 : Int32)), (.int (5 : Int32))])) _
      refine XS.icmpNo X36.here hx rfl (hb hby at_67) rfl (feq ((by decide) : ¬ ((5 : Int32) = (1 : Int32)))).1 ?_
      show Steps p.tables e below (T36.setTop (mkF m 70 #[.val (.int p0), .val (.ref b1), .val (.int (5 : Int32)), .val (.ref u5), .unset] [])) _
      refine XS.iloadN X36.here hx rfl (hb hby at_70) rfl ?_
      show Steps p.tables e below (T36.setTop (mkF m 71 #[.val (.int p0), .val (.ref b1), .val (.int (5 : Int32)), .val (.ref u5), .unset] [(.int (5 : Int32))])) _
      refine XS.iconst X36.here hx rfl (hb hby at_71) ?_
      show Steps p.tables e below (T36.setTop (mkF m 72 #[.val (.int p0), .val (.ref b1), .val (.int (5 : Int32)), .val (.ref u5), .unset] [(.int (2 : Int32)), (.int (5 : Int32))])) _
      refine XS.icmpYes X36.here hx rfl (pc0 := 72) (pc' := 79) rfl (hb hby at_72) rfl (feq ((by decide) : ¬ ((5 : Int32) = (2 : Int32)))).2 (by decide) (by decide) ?_
      show Steps p.tables e below (T36.setTop (mkF m 79 #[.val (.int p0), .val (.ref b1), .val (.int (5 : Int32)), .val (.ref u5), .unset] [])) _
      refine XS.iconst X36.here hx rfl (hb hby at_79) ?_
      show Steps p.tables e below (T36.setTop (mkF m 80 #[.val (.int p0), .val (.ref b1), .val (.int (5 : Int32)), .val (.ref u5), .unset] [(.int (0 : Int32))])) _
      refine XS.istore X36.here hx rfl (hb hby at_80) rfl (l' := #[.val (.int p0), .val (.ref b1), .val (.int (5 : Int32)), .val (.ref u5), .val (.int (0 : Int32))]) rfl ?_
      show Steps p.tables e below (T36.setTop (mkF m 82 #[.val (.int p0), .val (.ref b1), .val (.int (5 : Int32)), .val (.ref u5), .val (.int (0 : Int32))] [])) _
      refine XS.aloadN X36.here hx rfl (hb hby at_82) rfl rfl ?_
      show Steps p.tables e below (T36.setTop (mkF m 83 #[.val (.int p0), .val (.ref b1), .val (.int (5 : Int32)), .val (.ref u5), .val (.int (0 : Int32))] [(.ref u5)])) _
      refine st75.trans ?_
      show Steps p.tables e below (T75.setTop (mkF m 86 #[.val (.int p0), .val (.ref b1), .val (.int (5 : Int32)), .val (.ref u5), .val (.int (0 : Int32))] [(.int (own_num u5 u0 u1 u2))])) _
      refine XS.iload X75.here hx rfl (hb hby at_86) rfl ?_
      show Steps p.tables e below (T75.setTop (mkF m 88 #[.val (.int p0), .val (.ref b1), .val (.int (5 : Int32)), .val (.ref u5), .val (.int (0 : Int32))] [(.int (0 : Int32)), (.int (own_num u5 u0 u1 u2))])) _
      refine XS.icmpNo X75.here hx rfl (hb hby at_88) rfl (teq (by rw [own_num, if_neg (Ne.symm ne_u0_u5), if_neg (Ne.symm ne_u1_u5), if_neg (Ne.symm ne_u2_u5)] : (own_num u5 u0 u1 u2) = (0 : Int32))).2 ?_
      show Steps p.tables e below (T75.setTop (mkF m 91 #[.val (.int p0), .val (.ref b1), .val (.int (5 : Int32)), .val (.ref u5), .val (.int (0 : Int32))] [])) _
      refine XS.iconst X75.here hx rfl (hb hby at_91) ?_
      show Steps p.tables e below (T75.setTop (mkF m 92 #[.val (.int p0), .val (.ref b1), .val (.int (5 : Int32)), .val (.ref u5), .val (.int (0 : Int32))] [(.int (1 : Int32))])) _
      refine XS.goto X75.here hx rfl (pc0 := 92) (pc' := 96) rfl (hb hby at_92) (by decide) (by decide) ?_
      show Steps p.tables e below (T75.setTop (mkF m 96 #[.val (.int p0), .val (.ref b1), .val (.int (5 : Int32)), .val (.ref u5), .val (.int (0 : Int32))] [(.int (1 : Int32))])) _
      exact retN X75 hx (t := .boolean) Bd.returns (by simp) (hb hby at_96) hr
    · show rm0Q Z p0 h0 n0 _ T75.heap _
      rw [e75q]
      exact ⟨rfl, N75⟩
  · obtain ⟨cl81, Ar81, q81, S81, N81', H81, G81⟩ := id Vs36
    have hin81 : ¬ ((6 : Int32) < 0 ∨ cl81.slots.size ≤ ((6 : Int32)).toNatClampNeg) := inb_of S81 ⟨by decide, by decide⟩
    have Zz_83 : n0 ≤ h36.size := (Nat.le_trans (Nat.le_trans (Nat.le_trans (Nat.le_trans (Nat.le_trans (Nat.le_trans (Nat.le_trans (Nat.le_trans Z0 E1.1) (Keep.of_wr W6).1) (Keep.of_wr W11).1) (Keep.of_wr W16).1) (Keep.of_wr W21).1) (Keep.of_wr W26).1) (Keep.of_wr W31).1) (Keep.of_wr W36).1)
    have Ss_84 : Sta Z h36 "com/example/querent/querent/language/ValueType" "INTEGER" "Lcom/example/querent/querent/language/ValueType;" (.ref u0) := (((((((Ss_2.wr W6).wr W11).wr W16).wr W21).wr W26).wr W31).wr W36)
    have Ss_85 : Sta Z h36 "com/example/querent/querent/language/ValueType" "DECIMAL" "Lcom/example/querent/querent/language/ValueType;" (.ref u1) := ((((((Ss_7.wr W11).wr W16).wr W21).wr W26).wr W31).wr W36)
    have Ss_86 : Sta Z h36 "com/example/querent/querent/language/ValueType" "FLOAT" "Lcom/example/querent/querent/language/ValueType;" (.ref u2) := (((((Ss_12.wr W16).wr W21).wr W26).wr W31).wr W36)
    have Ee_87 : Exa Z h36 u6 "com/example/querent/querent/language/ValueType" := (Ee_35.wr W36)
    obtain ⟨cq82, kq82, q82a, q82b, q82c⟩ := isOf hZ e36 (Ee_87)
    obtain ⟨_, _, ⟨T82, L82, k82, n82⟩, -, X82, ⟨Lc82, hQ82, l82, y82, z82⟩, st82⟩ := X36.virtualBack hx (y := (⟨"com/example/querent/querent/language/ValueType", "isNumeric", "()Z"⟩ : MethodName)) (z := (⟨"com/example/querent/querent/language/ValueType", "isNumeric", "()Z"⟩ : MethodName)) hown (mvT hZ (hw _ (List.mem_of_getElem? (i := 19) rfl))) (mvT hZ (hw _ (List.mem_of_getElem? (i := 20) rfl))) (notFace_of_selects (args := #[]) (mvT hZ (hw _ (List.mem_of_getElem? (i := 22) rfl)))) (mvT hZ (hw _ (List.mem_of_getElem? (i := 22) rfl))) (mvT hZ (hw _ (List.mem_of_getElem? (i := 21) rfl))) (by decide) (backOf (W := 0) (rm1 l Z aw hw [] u6 u0 u1 u2 h36 n0 Zz_83 Ss_84 Ss_85 Ss_86) hZ (hw _ (List.mem_of_getElem? (i := 23) rfl)) (hw _ (List.mem_of_getElem? (i := 3) rfl)) (by decide) (by decide)) q82a q82c (g := (mkF m 83 #[.val (.int p0), .val (.ref b1), .val (.int (6 : Int32)), .val (.ref u6), .val (.int (0 : Int32))] [(.ref u6)])) rfl (by rw [hml]; rfl) (Steps.refl _) (argsL := []) (rest := []) (lenOf pd_rm0_0 rfl) rfl (by show 2 * 0 + _ ≤ _; exact Nat.le_of_eq rfl) (hb hby at_83) (fun _ _ => ⟨rfl, e36, (by decide : 1 + 0 ≤ _), (by decide : 7 + 0 ≤ _)⟩)
    dsimp only [Pt.U, Pt.locs, Pt.cells, Pt.slots] at X82 l82 y82 z82 st82 hQ82
    subst l82 y82 z82
    obtain ⟨rfl, N82q, e82q⟩ := hQ82
    have N82 := Fr.app N36 N82q
    obtain ⟨fs, hr, hrun, hended, hW, hsame⟩ := X82.leave (v := some (.int (1 : Int32))) (fun h => by rw [Bd.returns] at h; cases h)
    refine ⟨_, _, pre38 _ ?_, hrun, hended, _, _, rfl, ?_, ⟨_, rfl⟩, hW, hsame.mono (by decide) (by decide)⟩
    · show Steps p.tables e below (T36.setTop (mkF m 57 #[.val (.int p0), .val (.ref b1), .val (.int (6 : Int32)), .unset, .unset] [])) _
      refine XS.aloadN X36.here hx rfl (hb hby at_57) rfl rfl ?_
      show Steps p.tables e below (T36.setTop (mkF m 58 #[.val (.int p0), .val (.ref b1), .val (.int (6 : Int32)), .unset, .unset] [(.ref b1)])) _
      refine XS.iloadN X36.here hx rfl (hb hby at_58) rfl ?_
      show Steps p.tables e below (T36.setTop (mkF m 59 #[.val (.int p0), .val (.ref b1), .val (.int (6 : Int32)), .unset, .unset] [(.int (6 : Int32)), (.ref b1)])) _
      refine X36.aaload hx (j := (6 : Int32)) (v := (.ref u6)) (by rw [e36]; exact Ar81.1) (State.isArrayOf_alike hZ.alike Ar81.2.1) rfl Ar81.2.2 hin81 (H81.at hin81 rfl) (g := (mkF m 59 #[.val (.int p0), .val (.ref b1), .val (.int (6 : Int32)), .unset, .unset] [(.int (6 : Int32)), (.ref b1)])) rfl rfl (hb hby at_59) _ ?_
      show Steps p.tables e below (T36.setTop (mkF m 60 #[.val (.int p0), .val (.ref b1), .val (.int (6 : Int32)), .unset, .unset] [(.ref u6)])) _
      refine XS.astoreN X36.here hx rfl (hb hby at_60) rfl rfl (l' := #[.val (.int p0), .val (.ref b1), .val (.int (6 : Int32)), .val (.ref u6), .unset]) rfl ?_
      show Steps p.tables e below (T36.setTop (mkF m 61 #[.val (.int p0), .val (.ref b1), .val (.int (6 : Int32)), .val (.ref u6), .unset] [])) _
      refine XS.iloadN X36.here hx rfl (hb hby at_61) rfl ?_
      show Steps p.tables e below (T36.setTop (mkF m 62 #[.val (.int p0), .val (.ref b1), .val (.int (6 : Int32)), .val (.ref u6), .unset] [(.int (6 : Int32))])) _
      refine XS.ifNo X36.here hx rfl (hb hby at_62) rfl ((if0 _ _).trans (feq ((by decide) : ¬ ((6 : Int32) = (0 : Int32)))).1) ?_
      show Steps p.tables e below (T36.setTop (mkF m 65 #[.val (.int p0), .val (.ref b1), .val (.int (6 : Int32)), .val (.ref u6), .unset] [])) _
      refine XS.iloadN X36.here hx rfl (hb hby at_65) rfl ?_
      show Steps p.tables e below (T36.setTop (mkF m 66 #[.val (.int p0), .val (.ref b1), .val (.int (6 : Int32)), .val (.ref u6), .unset] [(.int (6 : Int32))])) _
      refine XS.iconst X36.here hx rfl (hb hby at_66) ?_
      show Steps p.tables e below (T36.setTop (mkF m 67 #[.val (.int p0), .val (.ref b1), .val (.int (6 : Int32)), .val (.ref u6), .unset] [(.int (1 : Int32)), (.int (6 : Int32))])) _
      refine XS.icmpNo X36.here hx rfl (hb hby at_67) rfl (feq ((by decide) : ¬ ((6 : Int32) = (1 : Int32)))).1 ?_
      show Steps p.tables e below (T36.setTop (mkF m 70 #[.val (.int p0), .val (.ref b1), .val (.int (6 : Int32)), .val (.ref u6), .unset] [])) _
      refine XS.iloadN X36.here hx rfl (hb hby at_70) rfl ?_
      show Steps p.tables e below (T36.setTop (mkF m 71 #[.val (.int p0), .val (.ref b1), .val (.int (6 : Int32)), .val (.ref u6), .unset] [(.int (6 : Int32))])) _
      refine XS.iconst X36.here hx rfl (hb hby at_71) ?_
      show Steps p.tables e below (T36.setTop (mkF m 72 #[.val (.int p0), .val (.ref b1), .val (.int (6 : Int32)), .val (.ref u6), .unset] [(.int (2 : Int32)), (.int (6 : Int32))])) _
      refine XS.icmpYes X36.here hx rfl (pc0 := 72) (pc' := 79) rfl (hb hby at_72) rfl (feq ((by decide) : ¬ ((6 : Int32) = (2 : Int32)))).2 (by decide) (by decide) ?_
      show Steps p.tables e below (T36.setTop (mkF m 79 #[.val (.int p0), .val (.ref b1), .val (.int (6 : Int32)), .val (.ref u6), .unset] [])) _
      refine XS.iconst X36.here hx rfl (hb hby at_79) ?_
      show Steps p.tables e below (T36.setTop (mkF m 80 #[.val (.int p0), .val (.ref b1), .val (.int (6 : Int32)), .val (.ref u6), .unset] [(.int (0 : Int32))])) _
      refine XS.istore X36.here hx rfl (hb hby at_80) rfl (l' := #[.val (.int p0), .val (.ref b1), .val (.int (6 : Int32)), .val (.ref u6), .val (.int (0 : Int32))]) rfl ?_
      show Steps p.tables e below (T36.setTop (mkF m 82 #[.val (.int p0), .val (.ref b1), .val (.int (6 : Int32)), .val (.ref u6), .val (.int (0 : Int32))] [])) _
      refine XS.aloadN X36.here hx rfl (hb hby at_82) rfl rfl ?_
      show Steps p.tables e below (T36.setTop (mkF m 83 #[.val (.int p0), .val (.ref b1), .val (.int (6 : Int32)), .val (.ref u6), .val (.int (0 : Int32))] [(.ref u6)])) _
      refine st82.trans ?_
      show Steps p.tables e below (T82.setTop (mkF m 86 #[.val (.int p0), .val (.ref b1), .val (.int (6 : Int32)), .val (.ref u6), .val (.int (0 : Int32))] [(.int (own_num u6 u0 u1 u2))])) _
      refine XS.iload X82.here hx rfl (hb hby at_86) rfl ?_
      show Steps p.tables e below (T82.setTop (mkF m 88 #[.val (.int p0), .val (.ref b1), .val (.int (6 : Int32)), .val (.ref u6), .val (.int (0 : Int32))] [(.int (0 : Int32)), (.int (own_num u6 u0 u1 u2))])) _
      refine XS.icmpNo X82.here hx rfl (hb hby at_88) rfl (teq (by rw [own_num, if_neg (Ne.symm ne_u0_u6), if_neg (Ne.symm ne_u1_u6), if_neg (Ne.symm ne_u2_u6)] : (own_num u6 u0 u1 u2) = (0 : Int32))).2 ?_
      show Steps p.tables e below (T82.setTop (mkF m 91 #[.val (.int p0), .val (.ref b1), .val (.int (6 : Int32)), .val (.ref u6), .val (.int (0 : Int32))] [])) _
      refine XS.iconst X82.here hx rfl (hb hby at_91) ?_
      show Steps p.tables e below (T82.setTop (mkF m 92 #[.val (.int p0), .val (.ref b1), .val (.int (6 : Int32)), .val (.ref u6), .val (.int (0 : Int32))] [(.int (1 : Int32))])) _
      refine XS.goto X82.here hx rfl (pc0 := 92) (pc' := 96) rfl (hb hby at_92) (by decide) (by decide) ?_
      show Steps p.tables e below (T82.setTop (mkF m 96 #[.val (.int p0), .val (.ref b1), .val (.int (6 : Int32)), .val (.ref u6), .val (.int (0 : Int32))] [(.int (1 : Int32))])) _
      exact retN X82 hx (t := .boolean) Bd.returns (by simp) (hb hby at_96) hr
    · show rm0Q Z p0 h0 n0 _ T82.heap _
      rw [e82q]
      exact ⟨rfl, N82⟩
set_option maxRecDepth 65536 in
set_option maxHeartbeats 40000000 in
theorem comes_1 {Post : Tables → Env → Array Value → State → Outcome → State → Prop} (hpost : ∀ tb e args s v u, (limb_1_1.after args s (.returned v) u = true ∧ limb_1_2.after args s (.returned v) u = true ∧ True) → FrameEnd s (.returned v) u (Jvm.fieldLocs frame_1_writes args s ++ Jvm.arrayLocs frame_1_arrays args s ++ Jvm.staticLocs frame_1_statics s) 16 128 → Post tb e args s (.returned v) u) :
    ArmFor flags0 classFile x code maxLocals ret World_1 tables_1 room_1 Calls_1 rest_1 Pre_1 Post := by
  intro l hfl _ _ p e ha hc hk s m args below hf hA hF happ hP
  obtain ⟨hcalls, hrest, hpre⟩ := hP
  obtain ⟨-, -, -, hnamed, -, -, -, hat⟩ := (Spec.applies_iff hf).mp happ
  obtain ⟨hg, hn⟩ := and_e (Cond.before_iff.mp (show (Jvm.Cond.and given_1 narrow_1).before args s = true from hpre))
  obtain ⟨g1, g2⟩ := and_e hg
  obtain ⟨w0, rfl⟩ : ∃ w0 : Value, args = #[w0] := by
    have hs : args.size = 1 := by simpa [Cond.value, given_1] using g1
    obtain ⟨L⟩ := args
    match L, hs with
    | [w0], _ => exact ⟨w0, rfl⟩
  have hw := fun d (hd : d ∈ tables_1) => atoms_spec (ws := Jvm.Cond.code x code maxLocals ret :: tables_1) hat d (List.mem_cons_of_mem _ hd)
  have hfit : Fit s := fun {y c} hc i hi => by
    obtain ⟨ha, rfl⟩ := Array.getElem?_eq_some_iff.mp hc
    have q := List.all_eq_true.mp ((Array.all_eq_true_iff_forall_mem.mp hF) _ (Array.getElem_mem ha)) i (List.mem_range.mpr hi)
    simpa [Array.getElem?_eq_getElem hi] using q
  obtain ⟨i0, ei0⟩ := is_v g2
  obtain rfl : w0 = (.int i0) := Option.some.inj ei0
  obtain ⟨x0, y0⟩ := and_e hn
  obtain ⟨x1, y1⟩ := and_e y0
  obtain ⟨x2, y2⟩ := and_e y1
  obtain ⟨x3, y3⟩ := and_e y2
  obtain ⟨x4, y4⟩ := and_e y3
  obtain ⟨x5, y5⟩ := and_e y4
  obtain ⟨x6, y6⟩ := and_e y5
  obtain ⟨x7, y7⟩ := and_e y6
  obtain ⟨x8, y8⟩ := and_e y7
  obtain ⟨x9, y9⟩ := and_e y8
  obtain ⟨x10, y10⟩ := and_e y9
  obtain ⟨x11, y11⟩ := and_e y10
  obtain ⟨x12, y12⟩ := and_e y11
  obtain ⟨u0, _, _, _, ev0, -⟩ := Cond.exactly_spec (Cond.before_iff.mpr x0)
  have Eu0 := Exa.start ev0 x0
  have Sx0 := Sta.start ev0 (Or.inr ⟨(hw _ (List.mem_of_getElem? (i := 3) rfl)), (hw _ (List.mem_of_getElem? (i := 4) rfl))⟩)
  obtain ⟨u1, _, _, _, ev1, -⟩ := Cond.exactly_spec (Cond.before_iff.mpr x1)
  have Eu1 := Exa.start ev1 x1
  have Sx1 := Sta.start ev1 (Or.inr ⟨(hw _ (List.mem_of_getElem? (i := 3) rfl)), (hw _ (List.mem_of_getElem? (i := 7) rfl))⟩)
  obtain ⟨u2, _, _, _, ev2, -⟩ := Cond.exactly_spec (Cond.before_iff.mpr x2)
  have Eu2 := Exa.start ev2 x2
  have Sx2 := Sta.start ev2 (Or.inr ⟨(hw _ (List.mem_of_getElem? (i := 3) rfl)), (hw _ (List.mem_of_getElem? (i := 9) rfl))⟩)
  obtain ⟨u3, _, _, _, ev3, -⟩ := Cond.exactly_spec (Cond.before_iff.mpr x3)
  have Eu3 := Exa.start ev3 x3
  have Sx3 := Sta.start ev3 (Or.inr ⟨(hw _ (List.mem_of_getElem? (i := 3) rfl)), (hw _ (List.mem_of_getElem? (i := 11) rfl))⟩)
  obtain ⟨u4, _, _, _, ev4, -⟩ := Cond.exactly_spec (Cond.before_iff.mpr x4)
  have Eu4 := Exa.start ev4 x4
  have Sx4 := Sta.start ev4 (Or.inr ⟨(hw _ (List.mem_of_getElem? (i := 3) rfl)), (hw _ (List.mem_of_getElem? (i := 13) rfl))⟩)
  obtain ⟨u5, _, _, _, ev5, -⟩ := Cond.exactly_spec (Cond.before_iff.mpr x5)
  have Eu5 := Exa.start ev5 x5
  have Sx5 := Sta.start ev5 (Or.inr ⟨(hw _ (List.mem_of_getElem? (i := 3) rfl)), (hw _ (List.mem_of_getElem? (i := 15) rfl))⟩)
  obtain ⟨u6, _, _, _, ev6, -⟩ := Cond.exactly_spec (Cond.before_iff.mpr x6)
  have Eu6 := Exa.start ev6 x6
  have Sx6 := Sta.start ev6 (Or.inr ⟨(hw _ (List.mem_of_getElem? (i := 3) rfl)), (hw _ (List.mem_of_getElem? (i := 17) rfl))⟩)
  have o3 := Cond.eq_int (Cond.before_iff.mpr x7) rfl
  have Fo3 : Fld s s.heap u3 "java/lang/Enum" "ordinal" "I" (.int (3 : Int32)) := Fld.start (by rw [Term.eval, ev3] at o3; exact o3)
  have o0 := Cond.eq_int (Cond.before_iff.mpr x8) rfl
  have Fo0 : Fld s s.heap u0 "java/lang/Enum" "ordinal" "I" (.int (0 : Int32)) := Fld.start (by rw [Term.eval, ev0] at o0; exact o0)
  have o1 := Cond.eq_int (Cond.before_iff.mpr x9) rfl
  have Fo1 : Fld s s.heap u1 "java/lang/Enum" "ordinal" "I" (.int (1 : Int32)) := Fld.start (by rw [Term.eval, ev1] at o1; exact o1)
  have o2 := Cond.eq_int (Cond.before_iff.mpr x10) rfl
  have Fo2 : Fld s s.heap u2 "java/lang/Enum" "ordinal" "I" (.int (2 : Int32)) := Fld.start (by rw [Term.eval, ev2] at o2; exact o2)
  have o5 := Cond.eq_int (Cond.before_iff.mpr x11) rfl
  have Fo5 : Fld s s.heap u5 "java/lang/Enum" "ordinal" "I" (.int (5 : Int32)) := Fld.start (by rw [Term.eval, ev5] at o5; exact o5)
  have o6 := Cond.eq_int (Cond.before_iff.mpr x12) rfl
  have Fo6 : Fld s s.heap u6 "java/lang/Enum" "ordinal" "I" (.int (6 : Int32)) := Fld.start (by rw [Term.eval, ev6] at o6; exact o6)
  have o4 := Cond.eq_int (Cond.before_iff.mpr y12) rfl
  have Fo4 : Fld s s.heap u4 "java/lang/Enum" "ordinal" "I" (.int (4 : Int32)) := Fld.start (by rw [Term.eval, ev4] at o4; exact o4)
  obtain ⟨n, o, h1, h2, h3, _, L, rfl, ⟨rfl, N⟩, hq⟩ := rm0 l s _ hw tables_1 i0 u0 u1 u2 u3 u4 u5 u6 s.heap s.heap.size (Nat.le_refl _) Sx0 Sx1 Sx2 Sx3 Sx4 Sx5 Sx6 Eu0 Eu1 Eu2 Eu3 Eu4 Eu5 Eu6 (Fld.ne Fo0 Fo1 (by decide)) (Fld.ne Fo0 Fo2 (by decide)) (Fld.ne Fo0 Fo3 (by decide)) (Fld.ne Fo0 Fo4 (by decide)) (Fld.ne Fo0 Fo5 (by decide)) (Fld.ne Fo0 Fo6 (by decide)) (Fld.ne Fo1 Fo2 (by decide)) (Fld.ne Fo1 Fo3 (by decide)) (Fld.ne Fo1 Fo4 (by decide)) (Fld.ne Fo1 Fo5 (by decide)) (Fld.ne Fo1 Fo6 (by decide)) (Fld.ne Fo2 Fo3 (by decide)) (Fld.ne Fo2 Fo4 (by decide)) (Fld.ne Fo2 Fo5 (by decide)) (Fld.ne Fo2 Fo6 (by decide)) (Fld.ne Fo3 Fo4 (by decide)) (Fld.ne Fo3 Fo5 (by decide)) (Fld.ne Fo3 Fo6 (by decide)) (Fld.ne Fo4 Fo5 (by decide)) (Fld.ne Fo4 Fo6 (by decide)) (Fld.ne Fo5 Fo6 (by decide)) p e ha hc hk s m _ below hf ((Spec.applies_iff_loose hf).mp happ).1 ⟨rfl, State.Warmed39.refl s, rfl⟩ trivial
  refine ⟨n, _, h1, h2, h3, hpost _ _ _ _ _ _ ⟨Cond.after_iff.mpr rfl, Cond.after_iff.mpr (eq_i res_at (Term.int_eval (1)) rfl), trivial⟩ ⟨hq.1, hq.2.1, (hq.2.2.sift fun y hy => Or.inr (N y hy)).mono (by decide) (by decide)⟩⟩
theorem main_1_1 : Claimed_1_1 := comes_1 fun _ _ _ _ _ _ h hF => ⟨h.1, hF⟩
theorem main_1_2 : Claimed_1_2 := comes_1 fun _ _ _ _ _ _ h hF => ⟨h.2.1, hF⟩
end Jvm.Pilot.@@N@@
namespace Jvm.Pilot.@@N@@
open Jvm Jvm.ClassFile Sem Op Lib Jvm.Free Jvm.Stand Jvm.Pilot.@@N@@.Jvm.D
/-! MADE BY PROGRAM (witnessworld.py) out of the Statement's table words and the real class files: 13 classes; the members and pool entries that the words name. The judged class is class 1, her method 1. -/
namespace start1
open Jvm.ClassFile
def u (s : String) : CpInfo := .utf8 (stringToUtf16 s)
/-- a pool by its gaps: so many unusable entries, then the entry; so many at the end -/
def gap : Nat → List CpInfo → List CpInfo
  | 0, r => r
  | n + 1, r => .unusable :: gap n r
def poolList (es : List (Nat × CpInfo)) (last : Nat) : List CpInfo := es.foldr (fun e r => gap e.1 (e.2 :: r)) (gap last [])
def pool (es : List (Nat × CpInfo)) (last : Nat) : Array CpInfo := ⟨poolList es last⟩
def fileOf (pool : Array CpInfo) (this : Nat) (attrs : Array Attribute := #[]) (ms : Array MethodInfo := #[]) (fl : Nat := 33) (sup : Nat := 0) (ifs : Array Nat := #[]) (fds : Array FieldInfo := #[]) : ClassFile where
  minorVersion := 0
  majorVersion := 65
  constantPool := pool
  accessFlags := fl
  thisClass := this
  superClass := sup
  interfaces := ifs
  fields := fds
  methods := ms
  attributes := attrs
def plain (name : String) (sup : Option ClassId) : Class where
  name := name
  kind := .ordinary
  loader := none
  accessFlags := 33
  super := sup
  interfaces := #[]
  cf := none
  fields := #[]
  methods := #[]
  instanceTypes := #[]
  staticTypes := #[]
  resolved := #[]
  callSites := []
  init := .initialized
  statics := none
  mirror := none

def pool0 : Array CpInfo := pool [(5, u "<init>"), (0, u "()V"), (1, .class_ 10), (1, u "java/lang/Object")] 113

def k0m0 : Method := { name := "<init>", desc := "()V", sig := { parameters := [], returnType := none }, accessFlags := 1, code := none }
/-- java/lang/Object -/
def k0 : Class := { plain "java/lang/Object" none with
  accessFlags := 33
  interfaces := #[]
  cf := some (fileOf pool0 8 #[] #[{ accessFlags := 1, nameIndex := 5, descriptorIndex := 6, attributes := #[] }] 33 0 #[] #[])
  fields := #[]
  methods := #[k0m0]
  instanceTypes := #[]
  staticTypes := #[]
  resolved := Array.replicate 124 none
  statics := none }

def pool1 : Array CpInfo := pool [(2, .class_ 4), (1, u "java/lang/Object"), (0, u "<init>"), (0, u "()V"), (0, .class_ 8), (0, u "com/example/querent/querent/language/ValueType"), (0, .fieldref 7 10), (0, .nameAndType 11 12), (0, u "INTEGER"), (0, u "Lcom/example/querent/querent/language/ValueType;"), (0, .fieldref 7 14), (0, .nameAndType 15 12), (0, u "DECIMAL"), (0, .fieldref 7 17), (0, .nameAndType 18 12), (0, u "FLOAT"), (0, .fieldref 7 20), (0, .nameAndType 21 12), (0, u "STRING"), (0, .fieldref 7 23), (0, .nameAndType 24 12), (0, u "DATE"), (0, .fieldref 7 26), (0, .nameAndType 27 12), (0, u "TIME"), (0, .fieldref 7 29), (0, .nameAndType 30 12), (0, u "TIMESTAMP"), (0, .integer 2147483647), (0, .methodref 7 33), (0, .nameAndType 34 35), (0, u "isNumeric"), (0, u "()Z"), (0, .class_ 37), (0, u "com/example/querent/querent/language/ValueTypeIsNumericPinLaw"), (2, u "law"), (0, u "(I)Z")] 5

def k1m0 : Method := { name := "<init>", desc := "()V", sig := { parameters := [], returnType := none }, accessFlags := 2, code := none }
def k1c1 : Code := { maxStack := 4, maxLocals := 5, code := code, exceptionTable := #[], attributes := #[] }
def k1m1 : Method := { name := "law", desc := "(I)Z", sig := { parameters := [.int], returnType := some .boolean }, accessFlags := 9, code := some k1c1 }
/-- com/example/querent/querent/language/ValueTypeIsNumericPinLaw -/
def k1 : Class := { plain "com/example/querent/querent/language/ValueTypeIsNumericPinLaw" (some 0) with
  accessFlags := 49
  interfaces := #[]
  cf := some (fileOf pool1 36 #[] #[{ accessFlags := 2, nameIndex := 5, descriptorIndex := 6, attributes := #[] }, { accessFlags := 9, nameIndex := 40, descriptorIndex := 41, attributes := #[] }] 49 2 #[] #[])
  fields := #[]
  methods := #[k1m0, k1m1]
  instanceTypes := #[]
  staticTypes := #[]
  resolved := Array.replicate 47 none
  statics := none }

def pool2 : Array CpInfo := pool [(1, .class_ 2), (0, u "java/lang/constant/Constable"), (0, .class_ 4), (0, u "java/lang/Object")] 6

/-- java/lang/constant/Constable -/
def k2 : Class := { plain "java/lang/constant/Constable" (some 0) with
  accessFlags := 1537
  interfaces := #[]
  cf := some (fileOf pool2 1 #[] #[] 1537 3 #[] #[])
  fields := #[]
  methods := #[]
  instanceTypes := #[]
  staticTypes := #[]
  resolved := Array.replicate 11 none
  statics := none }

def pool3 : Array CpInfo := pool [(1, .class_ 2), (0, u "java/lang/Comparable"), (0, .class_ 4), (0, u "java/lang/Object")] 7

/-- java/lang/Comparable -/
def k3 : Class := { plain "java/lang/Comparable" (some 0) with
  accessFlags := 1537
  interfaces := #[]
  cf := some (fileOf pool3 1 #[] #[] 1537 3 #[] #[])
  fields := #[]
  methods := #[]
  instanceTypes := #[]
  staticTypes := #[]
  resolved := Array.replicate 12 none
  statics := none }

def pool4 : Array CpInfo := pool [(1, .class_ 2), (0, u "java/io/Serializable"), (0, .class_ 4), (0, u "java/lang/Object")] 2

/-- java/io/Serializable -/
def k4 : Class := { plain "java/io/Serializable" (some 0) with
  accessFlags := 1537
  interfaces := #[]
  cf := some (fileOf pool4 1 #[] #[] 1537 3 #[] #[])
  fields := #[]
  methods := #[]
  instanceTypes := #[]
  staticTypes := #[]
  resolved := Array.replicate 7 none
  statics := none }

def pool5 : Array CpInfo := pool [(2, .class_ 4), (1, u "java/lang/Enum"), (0, u "name"), (0, u "Ljava/lang/String;"), (2, u "ordinal"), (0, u "I"), (1, .class_ 14), (1, u "java/lang/Object"), (4, u "hash"), (86, .class_ 108), (1, u "java/lang/Enum$EnumDesc"), (2, .class_ 112), (0, u "java/lang/constant/Constable"), (0, .class_ 114), (0, u "java/lang/Comparable"), (0, .class_ 116), (0, u "java/io/Serializable")] 87

/-- java/lang/Enum -/
def k5 : Class := { plain "java/lang/Enum" (some 0) with
  accessFlags := 1057
  interfaces := #[2, 3, 4]
  cf := some (fileOf pool5 2 #[.nestMembers #[106]] #[] 1057 12 #[111, 113, 115] #[{ accessFlags := 18, nameIndex := 5, descriptorIndex := 6, attributes := #[] }, { accessFlags := 18, nameIndex := 9, descriptorIndex := 10, attributes := #[] }, { accessFlags := 2, nameIndex := 19, descriptorIndex := 10, attributes := #[] }])
  fields := #[{ name := "name", type := (.object "java/lang/String"), accessFlags := 18, slot := 0, constantValue := 0 }, { name := "ordinal", type := .int, accessFlags := 18, slot := 1, constantValue := 0 }, { name := "hash", type := .int, accessFlags := 2, slot := 2, constantValue := 0 }]
  methods := #[]
  instanceTypes := #[(.object "java/lang/String"), .int, .int]
  staticTypes := #[]
  resolved := Array.replicate 204 none
  statics := none }

def pool6 : Array CpInfo := pool [(1, .class_ 2), (0, u "com/example/querent/querent/language/ValueType"), (0, .fieldref 1 4), (0, .nameAndType 5 6), (0, u "INTEGER"), (0, u "Lcom/example/querent/querent/language/ValueType;"), (0, .fieldref 1 8), (0, .nameAndType 9 6), (0, u "DECIMAL"), (0, .fieldref 1 11), (0, .nameAndType 12 6), (0, u "FLOAT"), (2, u "STRING"), (2, u "DATE"), (2, u "TIME"), (2, u "TIMESTAMP"), (2, u "$VALUES"), (0, u "[Lcom/example/querent/querent/language/ValueType;"), (6, .class_ 37), (1, u "java/lang/Enum"), (8, u "description"), (0, u "Ljava/lang/String;"), (2, u "javaType"), (0, u "Ljava/lang/Class;"), (2, u "reader"), (0, u "Ljava/util/function/Function;"), (2, u "writer"), (42, u "FLOATING_POINT"), (0, u "Ljava/util/regex/Pattern;"), (11, u "()Z"), (119, u "isNumeric")] 85

def k6c0 : Code := { maxStack := 2, maxLocals := 1, code := prog_67_method_7_code, exceptionTable := #[], attributes := #[] }
def k6m0 : Method := { name := "isNumeric", desc := "()Z", sig := { parameters := [], returnType := some .boolean }, accessFlags := 1, code := some k6c0 }
/-- com/example/querent/querent/language/ValueType -/
def k6 : Class := { plain "com/example/querent/querent/language/ValueType" (some 5) with
  accessFlags := 16433
  interfaces := #[]
  cf := some (fileOf pool6 1 #[] #[{ accessFlags := 1, nameIndex := 234, descriptorIndex := 114, attributes := #[] }] 16433 35 #[] #[{ accessFlags := 16409, nameIndex := 5, descriptorIndex := 6, attributes := #[] }, { accessFlags := 16409, nameIndex := 9, descriptorIndex := 6, attributes := #[] }, { accessFlags := 16409, nameIndex := 12, descriptorIndex := 6, attributes := #[] }, { accessFlags := 16409, nameIndex := 15, descriptorIndex := 6, attributes := #[] }, { accessFlags := 16409, nameIndex := 18, descriptorIndex := 6, attributes := #[] }, { accessFlags := 16409, nameIndex := 21, descriptorIndex := 6, attributes := #[] }, { accessFlags := 16409, nameIndex := 24, descriptorIndex := 6, attributes := #[] }, { accessFlags := 26, nameIndex := 101, descriptorIndex := 102, attributes := #[] }, { accessFlags := 18, nameIndex := 46, descriptorIndex := 47, attributes := #[] }, { accessFlags := 18, nameIndex := 50, descriptorIndex := 51, attributes := #[] }, { accessFlags := 18, nameIndex := 54, descriptorIndex := 55, attributes := #[] }, { accessFlags := 18, nameIndex := 58, descriptorIndex := 55, attributes := #[] }, { accessFlags := 4122, nameIndex := 27, descriptorIndex := 28, attributes := #[] }])
  fields := #[{ name := "INTEGER", type := (.object "com/example/querent/querent/language/ValueType"), accessFlags := 16409, slot := 0, constantValue := 0 }, { name := "DECIMAL", type := (.object "com/example/querent/querent/language/ValueType"), accessFlags := 16409, slot := 1, constantValue := 0 }, { name := "FLOAT", type := (.object "com/example/querent/querent/language/ValueType"), accessFlags := 16409, slot := 2, constantValue := 0 }, { name := "STRING", type := (.object "com/example/querent/querent/language/ValueType"), accessFlags := 16409, slot := 3, constantValue := 0 }, { name := "DATE", type := (.object "com/example/querent/querent/language/ValueType"), accessFlags := 16409, slot := 4, constantValue := 0 }, { name := "TIME", type := (.object "com/example/querent/querent/language/ValueType"), accessFlags := 16409, slot := 5, constantValue := 0 }, { name := "TIMESTAMP", type := (.object "com/example/querent/querent/language/ValueType"), accessFlags := 16409, slot := 6, constantValue := 0 }, { name := "FLOATING_POINT", type := (.object "java/util/regex/Pattern"), accessFlags := 26, slot := 7, constantValue := 0 }, { name := "description", type := (.object "java/lang/String"), accessFlags := 18, slot := 3, constantValue := 0 }, { name := "javaType", type := (.object "java/lang/Class"), accessFlags := 18, slot := 4, constantValue := 0 }, { name := "reader", type := (.object "java/util/function/Function"), accessFlags := 18, slot := 5, constantValue := 0 }, { name := "writer", type := (.object "java/util/function/Function"), accessFlags := 18, slot := 6, constantValue := 0 }, { name := "$VALUES", type := (.array (.object "com/example/querent/querent/language/ValueType")), accessFlags := 4122, slot := 8, constantValue := 0 }]
  methods := #[k6m0]
  instanceTypes := #[(.object "java/lang/String"), .int, .int, (.object "java/lang/String"), (.object "java/lang/Class"), (.object "java/util/function/Function"), (.object "java/util/function/Function")]
  staticTypes := #[(.object "com/example/querent/querent/language/ValueType"), (.object "com/example/querent/querent/language/ValueType"), (.object "com/example/querent/querent/language/ValueType"), (.object "com/example/querent/querent/language/ValueType"), (.object "com/example/querent/querent/language/ValueType"), (.object "com/example/querent/querent/language/ValueType"), (.object "com/example/querent/querent/language/ValueType"), (.object "java/util/regex/Pattern"), (.array (.object "com/example/querent/querent/language/ValueType"))]
  resolved := Array.replicate 320 none
  statics := some 0 }

def pool7 : Array CpInfo := pool [(1, u "java/lang/Cloneable"), (0, .class_ 1), (0, u "java/lang/Object"), (0, .class_ 3)] 3

/-- java/lang/Cloneable -/
def k7 : Class := { plain "java/lang/Cloneable" (some 0) with
  accessFlags := 1537
  interfaces := #[]
  cf := some (fileOf pool7 2 #[] #[] 1537 4 #[] #[])
  fields := #[]
  methods := #[]
  instanceTypes := #[]
  staticTypes := #[]
  resolved := Array.replicate 8 none
  statics := none }

/-- the primitive byte -/
def k8 : Class := { plain "byte" none with kind := .primitive 'B', accessFlags := 0x411 }
/-- [B -/
def k9 : Class := { plain "[B" (some 0) with kind := .array 8 .byte, interfaces := #[7, 4], accessFlags := 1041 }

/-- the primitive int -/
def k10 : Class := { plain "int" none with kind := .primitive 'I', accessFlags := 0x411 }
/-- [I -/
def k11 : Class := { plain "[I" (some 0) with kind := .array 10 .int, interfaces := #[7, 4], accessFlags := 1041 }

/-- [Lcom/example/querent/querent/language/ValueType; -/
def k12 : Class := { plain "[Lcom/example/querent/querent/language/ValueType;" (some 0) with kind := .array 6 (.object "com/example/querent/querent/language/ValueType"), interfaces := #[7, 4], accessFlags := 1041 }

def heap : Heap := #[{ cls := 6, slots := #[.ref 1, .ref 2, .ref 3, .ref 4, .ref 5, .ref 6, .ref 7, .null, .null], vm := .statics 6 },
  { cls := 6, slots := #[.null, .int 0, .int 0, .null, .null, .null, .null], vm := .none },
  { cls := 6, slots := #[.null, .int 1, .int 0, .null, .null, .null, .null], vm := .none },
  { cls := 6, slots := #[.null, .int 2, .int 0, .null, .null, .null, .null], vm := .none },
  { cls := 6, slots := #[.null, .int 3, .int 0, .null, .null, .null, .null], vm := .none },
  { cls := 6, slots := #[.null, .int 4, .int 0, .null, .null, .null, .null], vm := .none },
  { cls := 6, slots := #[.null, .int 5, .int 0, .null, .null, .null, .null], vm := .none },
  { cls := 6, slots := #[.null, .int 6, .int 0, .null, .null, .null, .null], vm := .none }]
def classes : Array Class := #[k0, k1, k2, k3, k4, k5, k6, k7, k8, k9, k10, k11, k12]
def interned : List (Array UInt16 × Addr) := []
def slotsUsed : Nat := 58
def theMethod : MethodId := ⟨1, 1⟩
def args0 : Array Value := #[.int 5]
def aboutOver (below : List Frame) : State where
  vm := { classes := classes, interned := interned.toArray }
  heap := heap
  slotsUsed := slotsUsed
  threads := #[{ frames := .invoking theMethod args0 :: below }]
def below0 : List Frame := [.native { method := ⟨0, 0⟩, args := #[] }]
def about1 : State := aboutOver below0
def p0 : Program := .bare "" "" ""
def e0 : Env := launch0.env 0 0 0
theorem w_frames : about1.frames = Frame.invoking theMethod args0 :: below0 := rfl
set_option maxRecDepth 65536 in
theorem w_args : argsFit about1.vm theMethod args0 = true := by decide +kernel
set_option maxRecDepth 65536 in
theorem w_heap : heapFits about1 = true := by decide +kernel
set_option maxRecDepth 65536 in
theorem w_runnable : about1.curStatus? = some .runnable := by decide +kernel
set_option maxRecDepth 65536 in
theorem w_alone : about1.alone = true := by decide +kernel
set_option maxRecDepth 65536 in
theorem w_named : about1.methodNamed? x = some theMethod := by decide +kernel
set_option maxRecDepth 65536 in
theorem w_hears : about1.hears theMethod below0 = true := by decide +kernel
set_option maxRecDepth 65536 in
theorem w_ripe : about1.ripe theMethod args0 below0 = true := by decide +kernel
theorem w_running : about1.status = .running := rfl
set_option maxRecDepth 65536 in
theorem w_room : about1.hasRoom e0.platform room_1 = true :=
  launch0.hasRoom_least _ room_1 (by decide +kernel) (by decide +kernel) (by decide +kernel) (by decide +kernel) (by decide +kernel) (by decide +kernel)
theorem allAtoms_all (ts : List Jvm.Cond) (a : Array Jvm.Value) (st : Jvm.State) : (allAtoms ts).before a st = ts.all (fun c => c.before a st) := by
  induction ts with
  | nil => rfl
  | cons c t ih =>
    show (Jvm.Cond.and c (allAtoms t)).before a st = _
    rw [Jvm.Cond.before_and, ih, List.all_cons]
def words1 : List Jvm.Cond := Jvm.Cond.code x code maxLocals ret :: tables_1
/-- a 'code' word, met by the world's own term for the bytes: nothing is compared byte by byte -/
theorem code_word {y : MethodName} {bytes : ByteArray} {mx : Nat} {rt : Option FieldType} {a : Array Value} {s : State} {m : MethodId} {meth : Method} {c : Code} (h1 : s.methodNamed? y = some m) (h2 : s.vm.method? m = some meth) (h3 : meth.code = some c) (h4 : c.code = bytes)
    (h5 : (c.maxLocals == mx && c.exceptionTable.isEmpty && decide (c.maxStack ≤ mostOperands) && decide (meth.sig.returnType = rt) && !meth.locks && decide (parseMethodDescriptor y.desc = some meth.sig)) = true) : (Jvm.Cond.code y bytes mx rt).before a s = true := by
  simp only [Bool.and_eq_true, beq_iff_eq, Bool.not_eq_true', decide_eq_true_eq] at h5
  obtain ⟨⟨⟨⟨⟨g1, g2⟩, g3⟩, g4⟩, g5⟩, g6⟩ := h5
  simp [Cond.before, Cond.holds, Cond.value, h1, h2, h3, h4, g1, g2, g3, g4, g5, g6]
def isCode : Jvm.Cond → Bool
  | .code _ _ _ _ => true
  | _ => false
theorem all_split {L : List Jvm.Cond} {P : Jvm.Cond → Bool} (h1 : L.all (fun c => isCode c || P c) = true) (h2 : ∀ c ∈ L.filter isCode, P c = true) : L.all P = true := by
  refine List.all_eq_true.mpr fun c hc => ?_
  have h := List.all_eq_true.mp h1 c hc
  rcases Bool.eq_false_or_eq_true (isCode c) with hi | hi
  · exact h2 c (List.mem_filter.mpr ⟨hc, hi⟩)
  · simpa [hi] using h
set_option maxRecDepth 65536 in
theorem w_c0 : (Jvm.Cond.code x code maxLocals ret).before args0 about1 = true := code_word (m := ⟨1, 1⟩) (meth := k1m1) (c := k1c1) (by decide +kernel) rfl rfl rfl (by decide +kernel)
set_option maxRecDepth 65536 in
theorem w_c1 : (Jvm.Cond.code ({ cls := "com/example/querent/querent/language/ValueType", name := "isNumeric", desc := "()Z" } : Jvm.MethodName) prog_67_method_7_code (1 : Nat) (Option.some Jvm.ClassFile.FieldType.boolean)).before args0 about1 = true := code_word (m := ⟨6, 0⟩) (meth := k6m0) (c := k6c0) (by decide +kernel) rfl rfl rfl (by decide +kernel)
def codes1 : List Jvm.Cond := [Jvm.Cond.code x code maxLocals ret, Jvm.Cond.code ({ cls := "com/example/querent/querent/language/ValueType", name := "isNumeric", desc := "()Z" } : Jvm.MethodName) prog_67_method_7_code (1 : Nat) (Option.some Jvm.ClassFile.FieldType.boolean)]
set_option maxRecDepth 65536 in
theorem codes_eq : words1.filter isCode = codes1 := rfl
theorem w_codes : ∀ c ∈ words1.filter isCode, c.before args0 about1 = true := by
  rw [codes_eq]
  intro c hc
  simp only [codes1, List.mem_cons, List.not_mem_nil, or_false] at hc
  rcases hc with rfl | rfl
  · exact w_c0
  · exact w_c1
set_option maxRecDepth 65536 in
theorem w_t1 : (words1.take 24).all (fun c => isCode c || c.before args0 about1) = true := by decide +kernel
set_option maxRecDepth 65536 in
theorem w_t2 : (words1.drop 24).all (fun c => isCode c || c.before args0 about1) = true := by decide +kernel
theorem w_tables : (allAtoms (Jvm.Cond.code x code maxLocals ret :: tables_1)).before args0 about1 = true := by
  rw [allAtoms_all]
  show words1.all (fun c => c.before args0 about1) = true
  refine all_split ?_ w_codes
  rw [← List.take_append_drop 24 words1, List.all_append, w_t1, w_t2]
  rfl
set_option maxRecDepth 65536 in
theorem w_case : (Jvm.Cond.and given_1 narrow_1).before args0 about1 = true := by decide +kernel
theorem w_applies : (headSpec (Jvm.Cond.code x code maxLocals ret :: tables_1) room_1).applies x e0.platform about1 = true :=
  (Spec.applies_iff w_frames).mpr ⟨w_running, w_runnable, w_alone, w_named, w_hears, w_ripe, w_room, w_tables⟩
theorem atStart : AtStart classFile x code maxLocals ret World_1 tables_1 room_1 Calls_1 rest_1 Pre_1 launch0 p0 e0 about1 theMethod args0 below0 :=
  ⟨lists_1, trivial, launch0.admits_env _ _ _, launch0.least_env, fairChoices_fair.cas, fairChoices_fair.clock, w_frames, w_args, w_heap, w_applies, trivial, trivial, w_case⟩
end start1
theorem witness_1 : WitnessClaimed_1 := ⟨start1.p0, start1.e0, start1.about1, start1.theMethod, start1.args0, start1.below0, start1.atStart⟩
end Jvm.Pilot.@@N@@
