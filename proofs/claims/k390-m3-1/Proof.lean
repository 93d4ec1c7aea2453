import JvmDerived
import JvmDerived.Pilot.@@N@@Statement
import JvmDerived.Pilot.@@N@@Code
set_option linter.unusedVariables false
set_option linter.unusedSimpArgs false
namespace Jvm.RoadKit
open Sem ClassFile Op Lib Jvm.Stand Jvm.Free Jvm.LawKit
section New
variable {p : Program} {l : Launch} {e : Env} {R : Room} {s : State} {m : MethodId} {args : Array Value} {below : List Frame} {meth : Method} {c : Code} {T : State} {locs : List Loc} {cells slots : Nat}
theorem retI (X : Stand p l e R s m args below meth c T locs cells slots) (hx : p.tables.exec = Jvm.exec) {pc : Nat} {Ls : Array Slot} {z : Int32} {rest : List Value} (hret : meth.sig.returnType = some .int) (hd : decode c.code pc = .ok (.ireturn, 1)) {fs : List Frame}
    (hl : ∀ (f : JFrame) (acts : List Action), f.method = m → f.locked = none → f.entered = [] → (doReturn e (T.setTop f) acts (some (.int z))).1 = T.setFrames fs) : Steps p.tables e below (T.setTop (mkF m pc Ls (.int z :: rest))) (T.setFrames fs) := by
  have hm' : T.vm.method? m = some meth := X.method'
  have hn : narrow .int (.int z) = .int z := rfl
  show Steps p.tables e below (T.setTop { method := m, pc := pc, locals := Ls, stack := _ :: rest, locked := none }) _
  jvm_step X.here [X.here.top, hx, hd, hm', hret, hn]
  first | (intro acts; rw [hl _ acts rfl rfl rfl]) | rw [hl _ _ rfl rfl rfl]
  exact Steps.refl _
end New
end Jvm.RoadKit
namespace Jvm.Pilot.@@N@@
open Jvm Jvm.ClassFile Sem Op Lib Jvm.Free Jvm.Stand Jvm.LawKit Jvm.RoadKit Bundle Jvm.Pilot.@@N@@.Jvm.D
def own_irem (a b : Int32) : Int32 := a - (a / b) * b
def own_lrem (a b : Int64) : Int64 := a - (a / b) * b
theorem own_strIn : ∀ a ∈ Bundle.stringAtoms, a ∈ tables_1 := by decide +kernel
def own_add (o u v : Addr) : Int32 := if o = u then (1 : Int32) else (if o = v then (1 : Int32) else (0 : Int32))
def own_eqc (a b : Int32) : Int32 := if a = b then (1 : Int32) else (0 : Int32)
theorem own_eq1 {a b : Int32} (h : ¬ own_eqc a b = (0 : Int32)) : own_eqc a b = (1 : Int32) := by
  unfold own_eqc at *
  split
  · rfl
  · rename_i q; rw [if_neg q] at h; exact absurd rfl h
theorem own_n4 {p ii : Int32} (h : ii = (p &&& (3 : Int32))) : ii = (0 : Int32) ∨ ii = (1 : Int32) ∨ ii = (2 : Int32) ∨ ii = (3 : Int32) := by
  have h1 := c_mask p 3 2 (by decide) (by decide)
  rw [← h] at h1
  simp only [← Int32.toInt_inj, show (0 : Int32).toInt = 0 by decide, show (1 : Int32).toInt = 1 by decide, show (2 : Int32).toInt = 2 by decide, show (3 : Int32).toInt = 3 by decide]
  omega
theorem own_same {Z : State} {h : Heap} {o0 o1 b0 b1 : Addr} {k0 k1 : ClassId} {c0 c1 : Int32} (q : o0 = o1) (F0 : Fld Z h o0 "java/lang/String" "value" "[B" (.ref b0)) (F1 : Fld Z h o1 "java/lang/String" "value" "[B" (.ref b1)) (V0 : Arv Z h b0 k0 .byte (1 : Int32) [(.int c0)] (.int (0 : Int32))) (V1 : Arv Z h b1 k1 .byte (1 : Int32) [(.int c1)] (.int (0 : Int32))) : c0 = c1 := by
  by_cases e : b0 = b1
  · subst e
    obtain ⟨x, A, -, s1, -, H, -⟩ := V0
    obtain ⟨x', A', -, s2, -, H', -⟩ := V1
    cases A.1.symm.trans A'.1
    have e1 := H 0 (by rw [s1]; decide)
    have e2 := H' 0 (by rw [s1]; decide)
    have e3 := e1.symm.trans e2
    simpa using e3
  · exact absurd q (Fld.ne F0 F1 (fun z => e (Value.ref.inj z)))
theorem own_compact {s : State} {a : Array Value} (w0 : (Cond.initializedFor "java/lang/String" "COMPACT_STRINGS" "Z").before a s = true) (w1 : (Cond.isInt (Term.static "java/lang/String" "COMPACT_STRINGS" "Z")).before a s = true) (w2 : (Cond.not (Cond.eq (Term.static "java/lang/String" "COMPACT_STRINGS" "Z") (Term.int (0 : Int32)))).before a s = true) : ∃ cz : Int32, Sta s s.heap "java/lang/String" "COMPACT_STRINGS" "Z" (.int cz) ∧ ¬ cz = (0 : Int32) := by
  obtain ⟨z, hz⟩ := Cond.isInt_spec w1
  refine ⟨z, Sta.start hz (Or.inl w0), fun h => ?_⟩
  simp only [Cond.before, Cond.holds, Cond.value, hz, h] at w2
  simp [Term.eval] at w2
theorem own_str1 {s : State} {args : Array Value} {t : Term} {y : Addr} {c : Int32} (hf : Fit s) (ey : t.eval args s none [] s = some (.ref y)) (cc : (Cond.eq (Term.field t "java/lang/String" "coder" "B") (Term.int (0 : Int32))).value args s none s [] = some true) (ca : (Cond.arrayOf (Term.field t "java/lang/String" "value" "[B") FieldType.byte).value args s none s [] = some true) (cl : (Cond.eq (Term.length (Term.field t "java/lang/String" "value" "[B")) (Term.int (1 : Int32))).value args s none s [] = some true) (ce : (Cond.eq (Term.elem (Term.field t "java/lang/String" "value" "[B") (Term.int (0 : Int32))) (Term.int c)).value args s none s [] = some true) :
    ∃ (z : Addr) (kz : ClassId), Fld s s.heap y "java/lang/String" "value" "[B" (.ref z) ∧ Fld s s.heap y "java/lang/String" "coder" "B" (.int (0 : Int32)) ∧ Arv s s.heap z kz .byte (1 : Int32) [(.int c)] (.int (0 : Int32)) := by
  have hlen := Cond.eq_int (Cond.before_iff.mpr cl) rfl
  obtain ⟨z, cell, hev, hat, hv⟩ := Term.length_spec hlen
  have h31 := Jvm.Free.SBG.length_lt hev hat hlen
  have hcell := (State.arrayAt?_spec hat).1
  obtain ⟨hA, hu⟩ := Cond.arrayOf_spec (Cond.before_iff.mpr ca) hev hcell
  have he := Cond.eq_int (Cond.before_iff.mpr ce) rfl
  obtain ⟨cell', hc', hin, hel⟩ := Jvm.Lib.elem_at he hev rfl
  cases hcell.symm.trans hc'
  have hco := Cond.eq_int (Cond.before_iff.mpr cc) rfl
  refine ⟨z, cell.cls, Fld.start (by rw [Term.eval, ey] at hev; exact hev), Fld.start (by rw [Term.eval, ey] at hco; exact hco), Arv.start hf ⟨hcell, hA, hu⟩ h31 (Value.int.inj hv).symm (by decide) rfl ⟨hel, trivial⟩⟩

theorem d1_0 : decode prog_11_method_6_code 0 = .ok (.aload_n 0, 1) := by decide +kernel
theorem d1_1 : decode prog_11_method_6_code 1 = .ok (.getstatic 3, 3) := by decide +kernel
theorem d1_4 : decode prog_11_method_6_code 4 = .ok (.if_acmp .eq 10, 3) := by decide +kernel
theorem d1_7 : decode prog_11_method_6_code 7 = .ok (.aload_n 0, 1) := by decide +kernel
theorem d1_8 : decode prog_11_method_6_code 8 = .ok (.getstatic 7, 3) := by decide +kernel
theorem d1_11 : decode prog_11_method_6_code 11 = .ok (.if_acmp .ne 7, 3) := by decide +kernel
theorem d1_14 : decode prog_11_method_6_code 14 = .ok (.iconst 1, 1) := by decide +kernel
theorem d1_15 : decode prog_11_method_6_code 15 = .ok (.goto 4, 3) := by decide +kernel
theorem d1_18 : decode prog_11_method_6_code 18 = .ok (.iconst 0, 1) := by decide +kernel
theorem d1_19 : decode prog_11_method_6_code 19 = .ok (.ireturn, 1) := by decide +kernel
theorem pn_1 : plainName "com/example/querent/querent/language/Arithmetic$Operator" = true := by first | (simp [plainName, overriddenIn]; done) | decide +kernel
theorem ef_rm1 (m : MethodId) (o0 : Addr) : entryFrame m #[(.ref o0)] 1 = mkF m 0 #[.val (.ref o0)] [] := by first | (simp [entryFrame, mkF, argsToLocals, Value.category]; done) | rfl
def rm1Q (Z : State) (o0 u0 u1 : Addr) (h0 : Heap) (n0 : Nat) (v : Option Value) (h : Heap) (L : List Loc) : Prop := v = some (.int (own_add o0 u0 u1)) ∧ Fr n0 L ∧ h = h0
set_option maxRecDepth 65536 in
set_option maxHeartbeats 40000000 in
theorem rm1 (l : Launch) (Z : State) (aw : Array Value) (hw : ∀ d ∈ tables_1, d.before aw Z = true) (ws : List Jvm.Cond) (o0 : Addr) (u0 u1 : Addr) (h0 : Heap) (n0 : Nat) (Z0 : n0 ≤ h0.size) (Sx0 : Sta Z h0 "com/example/querent/querent/language/Arithmetic$Operator" "ADD" "Lcom/example/querent/querent/language/Arithmetic$Operator;" (.ref u0)) (Sx1 : Sta Z h0 "com/example/querent/querent/language/Arithmetic$Operator" "SUBTRACT" "Lcom/example/querent/querent/language/Arithmetic$Operator;" (.ref u1)) :
    MetFree l (⟨"com/example/querent/querent/language/Arithmetic$Operator", "isAdditive", "()Z"⟩ : MethodName) (head1 (Jvm.Cond.code (⟨"com/example/querent/querent/language/Arithmetic$Operator", "isAdditive", "()Z"⟩ : MethodName) prog_11_method_6_code 1 (some .boolean) :: ws) ({ frames := 0, cells := 0, slots := 0, locals := 0 } : Room)) (fun a U => a = #[(.ref o0)] ∧ Z.Warmed39 U.vm ∧ U.heap = h0) (fun _ _ _ _ _ => True) (fun _ U o U' => ∃ v L, o = .returned v ∧ rm1Q Z o0 u0 u1 h0 n0 v U'.heap L ∧ FrameEnd U o U' L ({ frames := 0, cells := 0, slots := 0, locals := 0 } : Room).cells ({ frames := 0, cells := 0, slots := 0, locals := 0 } : Room).slots) := by
  refine MetFree.of_bodySF (plainFor_of_name pn_1) hisR ?_
  intro p e s m args below meth c s₁ Bd hml0 hP hK
  obtain ⟨rfl, hZ, hh⟩ := hP
  have hx := Bd.exec
  have hby := Bd.bytes
  have hml : c.maxLocals = 1 := hml0
  have hown : s.vm.findClass "com/example/querent/querent/language/Arithmetic$Operator" = some m.cls := findClass_of_methodNamed Bd.named
  have hnm := (name_of_methodNamed Bd.named Bd.method).1
  have X0 : Stand p l e ({ frames := 0, cells := 0, slots := 0, locals := 0 } : Room) s m #[(.ref o0)] below meth c s₁ [] 0 0 := Stand.of_body Bd
  have e0 : s₁.heap = h0 := by rw [← hh, Bd.state]; rfl
  have N0 := Fr.nil n0
  have pre0 : ∀ t, Steps p.tables e below (s₁.setTop (mkF m 0 #[.val (.ref o0)] [])) t → Steps p.tables e below (s₁.setTop (entryFrame m #[(.ref o0)] 1)) t := fun t k => castTop (ef_rm1 m o0) k
  obtain ⟨T1, X1, e1, st1⟩ := getS2 X0 hx hZ hown (host := "") (Or.inl (hw _ (List.mem_of_getElem? (i := 8) rfl))) Via.refl e0 Sx0 (g := (mkF m 1 #[.val (.ref o0)] [(.ref o0)])) rfl (hb hby d1_1)
  have pre2 : ∀ t, Steps p.tables e below (T1.setTop (mkF m 4 #[.val (.ref o0)] [(.ref u0), (.ref o0)])) t → Steps p.tables e below (s₁.setTop (entryFrame m #[(.ref o0)] 1)) t := fun t k => pre0 t (by
    show Steps p.tables e below (s₁.setTop (mkF m 0 #[.val (.ref o0)] [])) _
    refine XS.aloadN X0.here hx rfl (hb hby d1_0) rfl rfl ?_
    show Steps p.tables e below (s₁.setTop (mkF m 1 #[.val (.ref o0)] [(.ref o0)])) _
    refine st1 _ ?_
    exact k)
  by_cases hc4_3 : o0 = u0
  · obtain ⟨fs, hr, hrun, hended, hW, hsame⟩ := X1.leave (v := some (.int (1 : Int32))) (fun h => by rw [Bd.returns] at h; cases h)
    refine ⟨_, _, pre2 _ ?_, hrun, hended, _, _, rfl, ?_, ⟨_, rfl⟩, hW, hsame.mono (by decide) (by decide)⟩
    · show Steps p.tables e below (T1.setTop (mkF m 4 #[.val (.ref o0)] [(.ref u0), (.ref o0)])) _
      refine Jvm.RoadKit.acmp (g := (mkF m 4 #[.val (.ref o0)] [(.ref u0), (.ref o0)])) X1 hx rfl rfl rfl (pc0 := 4) (pc' := 14) (same := true) rfl (hb hby d1_4) rfl (decide_eq_true (congrArg Value.ref hc4_3)) (by decide) (by decide) ?_
      show Steps p.tables e below (T1.setTop (mkF m 14 #[.val (.ref o0)] [])) _
      refine XS.iconst X1.here hx rfl (hb hby d1_14) ?_
      show Steps p.tables e below (T1.setTop (mkF m 15 #[.val (.ref o0)] [(.int (1 : Int32))])) _
      refine XS.goto X1.here hx rfl (pc0 := 15) (pc' := 19) rfl (hb hby d1_15) (by decide) (by decide) ?_
      show Steps p.tables e below (T1.setTop (mkF m 19 #[.val (.ref o0)] [(.int (1 : Int32))])) _
      exact retN X1 hx (t := .boolean) Bd.returns (by simp) (hb hby d1_19) hr
    · show rm1Q Z o0 u0 u1 h0 n0 _ T1.heap _
      rw [e1]
      exact ⟨(by rw [own_add, if_pos hc4_3]), N0, rfl⟩
  · obtain ⟨T4, X4, e4, st4⟩ := getS2 X1 hx hZ hown (host := "") (Or.inl (hw _ (List.mem_of_getElem? (i := 40) rfl))) Via.refl e1 Sx1 (g := (mkF m 8 #[.val (.ref o0)] [(.ref o0)])) rfl (hb hby d1_8)
    have pre5 : ∀ t, Steps p.tables e below (T4.setTop (mkF m 11 #[.val (.ref o0)] [(.ref u1), (.ref o0)])) t → Steps p.tables e below (s₁.setTop (entryFrame m #[(.ref o0)] 1)) t := fun t k => pre2 t (by
      show Steps p.tables e below (T1.setTop (mkF m 4 #[.val (.ref o0)] [(.ref u0), (.ref o0)])) _
      refine Jvm.RoadKit.acmp (g := (mkF m 4 #[.val (.ref o0)] [(.ref u0), (.ref o0)])) X1 hx rfl rfl rfl (pc0 := 4) (pc' := 7) (same := false) rfl (hb hby d1_4) rfl (decide_eq_false fun q => hc4_3 (Value.ref.inj q)) (by decide) (by decide) ?_
      show Steps p.tables e below (T1.setTop (mkF m 7 #[.val (.ref o0)] [])) _
      refine XS.aloadN X1.here hx rfl (hb hby d1_7) rfl rfl ?_
      show Steps p.tables e below (T1.setTop (mkF m 8 #[.val (.ref o0)] [(.ref o0)])) _
      refine st4 _ ?_
      exact k)
    by_cases hc11_6 : o0 = u1
    · obtain ⟨fs, hr, hrun, hended, hW, hsame⟩ := X4.leave (v := some (.int (1 : Int32))) (fun h => by rw [Bd.returns] at h; cases h)
      refine ⟨_, _, pre5 _ ?_, hrun, hended, _, _, rfl, ?_, ⟨_, rfl⟩, hW, hsame.mono (by decide) (by decide)⟩
      · show Steps p.tables e below (T4.setTop (mkF m 11 #[.val (.ref o0)] [(.ref u1), (.ref o0)])) _
        refine Jvm.RoadKit.acmp (g := (mkF m 11 #[.val (.ref o0)] [(.ref u1), (.ref o0)])) X4 hx rfl rfl rfl (pc0 := 11) (pc' := 14) (same := true) rfl (hb hby d1_11) rfl (decide_eq_true (congrArg Value.ref hc11_6)) (by decide) (by decide) ?_
        show Steps p.tables e below (T4.setTop (mkF m 14 #[.val (.ref o0)] [])) _
        refine XS.iconst X4.here hx rfl (hb hby d1_14) ?_
        show Steps p.tables e below (T4.setTop (mkF m 15 #[.val (.ref o0)] [(.int (1 : Int32))])) _
        refine XS.goto X4.here hx rfl (pc0 := 15) (pc' := 19) rfl (hb hby d1_15) (by decide) (by decide) ?_
        show Steps p.tables e below (T4.setTop (mkF m 19 #[.val (.ref o0)] [(.int (1 : Int32))])) _
        exact retN X4 hx (t := .boolean) Bd.returns (by simp) (hb hby d1_19) hr
      · show rm1Q Z o0 u0 u1 h0 n0 _ T4.heap _
        rw [e4]
        exact ⟨(by rw [own_add, if_neg hc4_3, if_pos hc11_6]), N0, rfl⟩
    · obtain ⟨fs, hr, hrun, hended, hW, hsame⟩ := X4.leave (v := some (.int (0 : Int32))) (fun h => by rw [Bd.returns] at h; cases h)
      refine ⟨_, _, pre5 _ ?_, hrun, hended, _, _, rfl, ?_, ⟨_, rfl⟩, hW, hsame.mono (by decide) (by decide)⟩
      · show Steps p.tables e below (T4.setTop (mkF m 11 #[.val (.ref o0)] [(.ref u1), (.ref o0)])) _
        refine Jvm.RoadKit.acmp (g := (mkF m 11 #[.val (.ref o0)] [(.ref u1), (.ref o0)])) X4 hx rfl rfl rfl (pc0 := 11) (pc' := 18) (same := false) rfl (hb hby d1_11) rfl (decide_eq_false fun q => hc11_6 (Value.ref.inj q)) (by decide) (by decide) ?_
        show Steps p.tables e below (T4.setTop (mkF m 18 #[.val (.ref o0)] [])) _
        refine XS.iconst X4.here hx rfl (hb hby d1_18) ?_
        show Steps p.tables e below (T4.setTop (mkF m 19 #[.val (.ref o0)] [(.int (0 : Int32))])) _
        exact retN X4 hx (t := .boolean) Bd.returns (by simp) (hb hby d1_19) hr
      · show rm1Q Z o0 u0 u1 h0 n0 _ T4.heap _
        rw [e4]
        exact ⟨(by rw [own_add, if_neg hc4_3, if_neg hc11_6]), N0, rfl⟩
theorem d2_0 : decode prog_11_method_5_code 0 = .ok (.aload_n 0, 1) := by decide +kernel
theorem d2_1 : decode prog_11_method_5_code 1 = .ok (.getfield 35, 3) := by decide +kernel
theorem d2_4 : decode prog_11_method_5_code 4 = .ok (.areturn, 1) := by decide +kernel
theorem pn_2 : plainName "com/example/querent/querent/language/Arithmetic$Operator" = true := by first | (simp [plainName, overriddenIn]; done) | decide +kernel
theorem ef_rm2 (m : MethodId) (o0 : Addr) : entryFrame m #[(.ref o0)] 1 = mkF m 0 #[.val (.ref o0)] [] := by first | (simp [entryFrame, mkF, argsToLocals, Value.category]; done) | rfl
def rm2Q (Z : State) (o0 y : Addr) (h0 : Heap) (n0 : Nat) (v : Option Value) (h : Heap) (L : List Loc) : Prop := v = some (.ref y) ∧ Fr n0 L ∧ h = h0
set_option maxRecDepth 65536 in
set_option maxHeartbeats 40000000 in
theorem rm2 (l : Launch) (Z : State) (aw : Array Value) (hw : ∀ d ∈ tables_1, d.before aw Z = true) (ws : List Jvm.Cond) (o0 : Addr) (y : Addr) (h0 : Heap) (n0 : Nat) (Z0 : n0 ≤ h0.size) (F_s : Fld Z h0 o0 "com/example/querent/querent/language/Arithmetic$Operator" "symbol" "Ljava/lang/String;" (.ref y)) :
    MetFree l (⟨"com/example/querent/querent/language/Arithmetic$Operator", "symbol", "()Ljava/lang/String;"⟩ : MethodName) (head1 (Jvm.Cond.code (⟨"com/example/querent/querent/language/Arithmetic$Operator", "symbol", "()Ljava/lang/String;"⟩ : MethodName) prog_11_method_5_code 1 (some (.object "java/lang/String")) :: ws) ({ frames := 0, cells := 0, slots := 0, locals := 0 } : Room)) (fun a U => a = #[(.ref o0)] ∧ Z.Warmed39 U.vm ∧ U.heap = h0) (fun _ _ _ _ _ => True) (fun _ U o U' => ∃ v L, o = .returned v ∧ rm2Q Z o0 y h0 n0 v U'.heap L ∧ FrameEnd U o U' L ({ frames := 0, cells := 0, slots := 0, locals := 0 } : Room).cells ({ frames := 0, cells := 0, slots := 0, locals := 0 } : Room).slots) := by
  refine MetFree.of_bodySF (plainFor_of_name pn_2) hisR ?_
  intro p e s m args below meth c s₁ Bd hml0 hP hK
  obtain ⟨rfl, hZ, hh⟩ := hP
  have hx := Bd.exec
  have hby := Bd.bytes
  have hml : c.maxLocals = 1 := hml0
  have hown : s.vm.findClass "com/example/querent/querent/language/Arithmetic$Operator" = some m.cls := findClass_of_methodNamed Bd.named
  have hnm := (name_of_methodNamed Bd.named Bd.method).1
  have X0 : Stand p l e ({ frames := 0, cells := 0, slots := 0, locals := 0 } : Room) s m #[(.ref o0)] below meth c s₁ [] 0 0 := Stand.of_body Bd
  have e0 : s₁.heap = h0 := by rw [← hh, Bd.state]; rfl
  have N0 := Fr.nil n0
  have pre0 : ∀ t, Steps p.tables e below (s₁.setTop (mkF m 0 #[.val (.ref o0)] [])) t → Steps p.tables e below (s₁.setTop (entryFrame m #[(.ref o0)] 1)) t := fun t k => castTop (ef_rm2 m o0) k
  obtain ⟨T1, X1, e1, st1⟩ := getF X0 hx hZ hown (host := "") (Or.inl (hw _ (List.mem_of_getElem? (i := 14) rfl))) Via.refl e0 F_s (g := (mkF m 1 #[.val (.ref o0)] [(.ref o0)])) rfl rfl (hb hby d2_1)
  obtain ⟨fs, hr, hrun, hended, hW, hsame⟩ := X1.leave (v := some (.ref y)) (fun h => by rw [Bd.returns] at h; cases h)
  refine ⟨_, _, pre0 _ ?_, hrun, hended, _, _, rfl, ?_, ⟨_, rfl⟩, hW, hsame.mono (by decide) (by decide)⟩
  · show Steps p.tables e below (s₁.setTop (mkF m 0 #[.val (.ref o0)] [])) _
    refine XS.aloadN X0.here hx rfl (hb hby d2_0) rfl rfl ?_
    show Steps p.tables e below (s₁.setTop (mkF m 1 #[.val (.ref o0)] [(.ref o0)])) _
    refine st1 _ ?_
    show Steps p.tables e below (T1.setTop (mkF m 4 #[.val (.ref o0)] [(.ref y)])) _
    jvm_step X1.here [X1.here.top, hx, (hb hby d2_4), X1.method', Bd.returns, Value.isRef, FieldType.isReference]
    first | (intro acts; rw [hr _ acts rfl rfl rfl]) | rw [hr _ _ rfl rfl rfl]
    exact Steps.refl _
  · show rm2Q Z o0 y h0 n0 _ T1.heap _
    rw [e1]
    exact ⟨rfl, N0, rfl⟩
theorem d4_0 : decode jdk_43_method_13_code 0 = .ok (.aload_n 0, 1) := by decide +kernel
theorem d4_1 : decode jdk_43_method_13_code 1 = .ok (.arraylength, 1) := by decide +kernel
theorem d4_2 : decode jdk_43_method_13_code 2 = .ok (.aload_n 1, 1) := by decide +kernel
theorem d4_3 : decode jdk_43_method_13_code 3 = .ok (.arraylength, 1) := by decide +kernel
theorem d4_4 : decode jdk_43_method_13_code 4 = .ok (.if_icmp .ne 30, 3) := by decide +kernel
theorem d4_7 : decode jdk_43_method_13_code 7 = .ok (.iconst 0, 1) := by decide +kernel
theorem d4_8 : decode jdk_43_method_13_code 8 = .ok (.istore_n 2, 1) := by decide +kernel
theorem d4_9 : decode jdk_43_method_13_code 9 = .ok (.iload_n 2, 1) := by decide +kernel
theorem d4_10 : decode jdk_43_method_13_code 10 = .ok (.aload_n 0, 1) := by decide +kernel
theorem d4_11 : decode jdk_43_method_13_code 11 = .ok (.arraylength, 1) := by decide +kernel
theorem d4_12 : decode jdk_43_method_13_code 12 = .ok (.if_icmp .ge 20, 3) := by decide +kernel
theorem d4_15 : decode jdk_43_method_13_code 15 = .ok (.aload_n 0, 1) := by decide +kernel
theorem d4_16 : decode jdk_43_method_13_code 16 = .ok (.iload_n 2, 1) := by decide +kernel
theorem d4_17 : decode jdk_43_method_13_code 17 = .ok (.baload, 1) := by decide +kernel
theorem d4_18 : decode jdk_43_method_13_code 18 = .ok (.aload_n 1, 1) := by decide +kernel
theorem d4_19 : decode jdk_43_method_13_code 19 = .ok (.iload_n 2, 1) := by decide +kernel
theorem d4_20 : decode jdk_43_method_13_code 20 = .ok (.baload, 1) := by decide +kernel
theorem d4_21 : decode jdk_43_method_13_code 21 = .ok (.if_icmp .eq 5, 3) := by decide +kernel
theorem d4_24 : decode jdk_43_method_13_code 24 = .ok (.iconst 0, 1) := by decide +kernel
theorem d4_25 : decode jdk_43_method_13_code 25 = .ok (.ireturn, 1) := by decide +kernel
theorem d4_26 : decode jdk_43_method_13_code 26 = .ok (.iinc 2 1, 3) := by decide +kernel
theorem d4_29 : decode jdk_43_method_13_code 29 = .ok (.goto (-20), 3) := by decide +kernel
theorem d4_32 : decode jdk_43_method_13_code 32 = .ok (.iconst 1, 1) := by decide +kernel
theorem d4_33 : decode jdk_43_method_13_code 33 = .ok (.ireturn, 1) := by decide +kernel
theorem pn_4 : plainName "java/lang/StringLatin1" = true := by first | (simp [plainName, overriddenIn]; done) | decide +kernel
theorem ef_rm4 (m : MethodId) (o0 : Addr) (o1 : Addr) : entryFrame m #[(.ref o0), (.ref o1)] 3 = mkF m 0 #[.val (.ref o0), .val (.ref o1), .unset] [] := by first | (simp [entryFrame, mkF, argsToLocals, Value.category]; done) | rfl
def rm4Q (Z : State) (o0 o1 : Addr) (c0 c1 : Int32) (h0 : Heap) (n0 : Nat) (v : Option Value) (h : Heap) (L : List Loc) : Prop := v = some (.int (own_eqc c0 c1)) ∧ Fr n0 L ∧ h = h0
set_option maxRecDepth 65536 in
set_option maxHeartbeats 40000000 in
theorem rm4 (l : Launch) (Z : State) (aw : Array Value) (hw : ∀ d ∈ tables_1, d.before aw Z = true) (ws : List Jvm.Cond) (o0 : Addr) (o1 : Addr) (k0 k1 : ClassId) (c0 c1 : Int32) (h0 : Heap) (n0 : Nat) (Z0 : n0 ≤ h0.size) (V0 : Arv Z h0 o0 k0 .byte (1 : Int32) [(.int c0)] (.int (0 : Int32))) (V1 : Arv Z h0 o1 k1 .byte (1 : Int32) [(.int c1)] (.int (0 : Int32))) :
    MetFree l (⟨"java/lang/StringLatin1", "equals", "([B[B)Z"⟩ : MethodName) (head1 (Jvm.Cond.code (⟨"java/lang/StringLatin1", "equals", "([B[B)Z"⟩ : MethodName) jdk_43_method_13_code 3 (some .boolean) :: ws) ({ frames := 0, cells := 0, slots := 0, locals := 0 } : Room)) (fun a U => a = #[(.ref o0), (.ref o1)] ∧ Z.Warmed39 U.vm ∧ U.heap = h0) (fun _ _ _ _ _ => True) (fun _ U o U' => ∃ v L, o = .returned v ∧ rm4Q Z o0 o1 c0 c1 h0 n0 v U'.heap L ∧ FrameEnd U o U' L ({ frames := 0, cells := 0, slots := 0, locals := 0 } : Room).cells ({ frames := 0, cells := 0, slots := 0, locals := 0 } : Room).slots) := by
  refine MetFree.of_bodySF (plainFor_of_name pn_4) hisR ?_
  intro p e s m args below meth c s₁ Bd hml0 hP hK
  obtain ⟨rfl, hZ, hh⟩ := hP
  have hx := Bd.exec
  have hby := Bd.bytes
  have hml : c.maxLocals = 3 := hml0
  have hown : s.vm.findClass "java/lang/StringLatin1" = some m.cls := findClass_of_methodNamed Bd.named
  have hnm := (name_of_methodNamed Bd.named Bd.method).1
  have X0 : Stand p l e ({ frames := 0, cells := 0, slots := 0, locals := 0 } : Room) s m #[(.ref o0), (.ref o1)] below meth c s₁ [] 0 0 := Stand.of_body Bd
  have e0 : s₁.heap = h0 := by rw [← hh, Bd.state]; rfl
  have N0 := Fr.nil n0
  have pre0 : ∀ t, Steps p.tables e below (s₁.setTop (mkF m 0 #[.val (.ref o0), .val (.ref o1), .unset] [])) t → Steps p.tables e below (s₁.setTop (entryFrame m #[(.ref o0), (.ref o1)] 3)) t := fun t k => castTop (ef_rm4 m o0 o1) k
  obtain ⟨cl1, Ar1, -, S1, N1', -, -⟩ := id V0
  obtain ⟨cl2, Ar2, -, S2, N2', -, -⟩ := id V1
  obtain ⟨cl3, Ar3, -, S3, N3', -, -⟩ := id V0
  obtain ⟨cl4, Ar4, q4, S4, N4', H4, G4⟩ := id V0
  have hin4 : ¬ ((0 : Int32) < 0 ∨ cl4.slots.size ≤ ((0 : Int32)).toNatClampNeg) := inb_of S4 ⟨by decide, by decide⟩
  obtain ⟨cl5, Ar5, q5, S5, N5', H5, G5⟩ := id V1
  have hin5 : ¬ ((0 : Int32) < 0 ∨ cl5.slots.size ≤ ((0 : Int32)).toNatClampNeg) := inb_of S5 ⟨by decide, by decide⟩
  have pre6 : ∀ t, Steps p.tables e below (s₁.setTop (mkF m 21 #[.val (.ref o0), .val (.ref o1), .val (.int (0 : Int32))] [(.int c1), (.int c0)])) t → Steps p.tables e below (s₁.setTop (entryFrame m #[(.ref o0), (.ref o1)] 3)) t := fun t k => pre0 t (by
    show Steps p.tables e below (s₁.setTop (mkF m 0 #[.val (.ref o0), .val (.ref o1), .unset] [])) _
    refine XS.aloadN X0.here hx rfl (hb hby d4_0) rfl rfl ?_
    show Steps p.tables e below (s₁.setTop (mkF m 1 #[.val (.ref o0), .val (.ref o1), .unset] [(.ref o0)])) _
    refine X0.arraylength hx (by rw [e0]; exact Ar1.1) (State.isArrayOf_alike hZ.alike Ar1.2.1) (g := (mkF m 1 #[.val (.ref o0), .val (.ref o1), .unset] [(.ref o0)])) rfl rfl (hb hby d4_1) _ ?_
    rw [len_of S1 N1']
    show Steps p.tables e below (s₁.setTop (mkF m 2 #[.val (.ref o0), .val (.ref o1), .unset] [(.int (1 : Int32))])) _
    refine XS.aloadN X0.here hx rfl (hb hby d4_2) rfl rfl ?_
    show Steps p.tables e below (s₁.setTop (mkF m 3 #[.val (.ref o0), .val (.ref o1), .unset] [(.ref o1), (.int (1 : Int32))])) _
    refine X0.arraylength hx (by rw [e0]; exact Ar2.1) (State.isArrayOf_alike hZ.alike Ar2.2.1) (g := (mkF m 3 #[.val (.ref o0), .val (.ref o1), .unset] [(.ref o1), (.int (1 : Int32))])) rfl rfl (hb hby d4_3) _ ?_
    rw [len_of S2 N2']
    show Steps p.tables e below (s₁.setTop (mkF m 4 #[.val (.ref o0), .val (.ref o1), .unset] [(.int (1 : Int32)), (.int (1 : Int32))])) _
    refine XS.icmpNo X0.here hx rfl (hb hby d4_4) rfl (teq (rfl : (1 : Int32) = (1 : Int32))).2 ?_
    show Steps p.tables e below (s₁.setTop (mkF m 7 #[.val (.ref o0), .val (.ref o1), .unset] [])) _
    refine XS.iconst X0.here hx rfl (hb hby d4_7) ?_
    show Steps p.tables e below (s₁.setTop (mkF m 8 #[.val (.ref o0), .val (.ref o1), .unset] [(.int (0 : Int32))])) _
    refine XS.istoreN X0.here hx rfl (hb hby d4_8) rfl (l' := #[.val (.ref o0), .val (.ref o1), .val (.int (0 : Int32))]) rfl ?_
    show Steps p.tables e below (s₁.setTop (mkF m 9 #[.val (.ref o0), .val (.ref o1), .val (.int (0 : Int32))] [])) _
    refine XS.iloadN X0.here hx rfl (hb hby d4_9) rfl ?_
    show Steps p.tables e below (s₁.setTop (mkF m 10 #[.val (.ref o0), .val (.ref o1), .val (.int (0 : Int32))] [(.int (0 : Int32))])) _
    refine XS.aloadN X0.here hx rfl (hb hby d4_10) rfl rfl ?_
    show Steps p.tables e below (s₁.setTop (mkF m 11 #[.val (.ref o0), .val (.ref o1), .val (.int (0 : Int32))] [(.ref o0), (.int (0 : Int32))])) _
    refine X0.arraylength hx (by rw [e0]; exact Ar3.1) (State.isArrayOf_alike hZ.alike Ar3.2.1) (g := (mkF m 11 #[.val (.ref o0), .val (.ref o1), .val (.int (0 : Int32))] [(.ref o0), (.int (0 : Int32))])) rfl rfl (hb hby d4_11) _ ?_
    rw [len_of S3 N3']
    show Steps p.tables e below (s₁.setTop (mkF m 12 #[.val (.ref o0), .val (.ref o1), .val (.int (0 : Int32))] [(.int (1 : Int32)), (.int (0 : Int32))])) _
    refine XS.icmpNo X0.here hx rfl (hb hby d4_12) rfl (tlt ((by decide) : (0 : Int32) < (1 : Int32))).2.1 ?_
    show Steps p.tables e below (s₁.setTop (mkF m 15 #[.val (.ref o0), .val (.ref o1), .val (.int (0 : Int32))] [])) _
    refine XS.aloadN X0.here hx rfl (hb hby d4_15) rfl rfl ?_
    show Steps p.tables e below (s₁.setTop (mkF m 16 #[.val (.ref o0), .val (.ref o1), .val (.int (0 : Int32))] [(.ref o0)])) _
    refine XS.iloadN X0.here hx rfl (hb hby d4_16) rfl ?_
    show Steps p.tables e below (s₁.setTop (mkF m 17 #[.val (.ref o0), .val (.ref o1), .val (.int (0 : Int32))] [(.int (0 : Int32)), (.ref o0)])) _
    refine X0.baloadBytes hx (j := (0 : Int32)) (v := (.int c0)) (by rw [e0]; exact Ar4.1) (State.isArrayOf_alike hZ.alike Ar4.2.1) Ar4.2.2 hin4 (H4.at hin4 rfl) (g := (mkF m 17 #[.val (.ref o0), .val (.ref o1), .val (.int (0 : Int32))] [(.int (0 : Int32)), (.ref o0)])) rfl rfl (hb hby d4_17) _ ?_
    show Steps p.tables e below (s₁.setTop (mkF m 18 #[.val (.ref o0), .val (.ref o1), .val (.int (0 : Int32))] [(.int c0)])) _
    refine XS.aloadN X0.here hx rfl (hb hby d4_18) rfl rfl ?_
    show Steps p.tables e below (s₁.setTop (mkF m 19 #[.val (.ref o0), .val (.ref o1), .val (.int (0 : Int32))] [(.ref o1), (.int c0)])) _
    refine XS.iloadN X0.here hx rfl (hb hby d4_19) rfl ?_
    show Steps p.tables e below (s₁.setTop (mkF m 20 #[.val (.ref o0), .val (.ref o1), .val (.int (0 : Int32))] [(.int (0 : Int32)), (.ref o1), (.int c0)])) _
    refine X0.baloadBytes hx (j := (0 : Int32)) (v := (.int c1)) (by rw [e0]; exact Ar5.1) (State.isArrayOf_alike hZ.alike Ar5.2.1) Ar5.2.2 hin5 (H5.at hin5 rfl) (g := (mkF m 20 #[.val (.ref o0), .val (.ref o1), .val (.int (0 : Int32))] [(.int (0 : Int32)), (.ref o1), (.int c0)])) rfl rfl (hb hby d4_20) _ ?_
    exact k)
  by_cases hc21_7 : c0 = c1
  · obtain ⟨cl8, Ar8, -, S8, N8', -, -⟩ := id V0
    obtain ⟨fs, hr, hrun, hended, hW, hsame⟩ := X0.leave (v := some (.int (1 : Int32))) (fun h => by rw [Bd.returns] at h; cases h)
    refine ⟨_, _, pre6 _ ?_, hrun, hended, _, _, rfl, ?_, ⟨_, rfl⟩, hW, hsame.mono (by decide) (by decide)⟩
    · show Steps p.tables e below (s₁.setTop (mkF m 21 #[.val (.ref o0), .val (.ref o1), .val (.int (0 : Int32))] [(.int c1), (.int c0)])) _
      refine XS.icmpYes X0.here hx rfl (pc0 := 21) (pc' := 26) rfl (hb hby d4_21) rfl (teq hc21_7).1 (by decide) (by decide) ?_
      show Steps p.tables e below (s₁.setTop (mkF m 26 #[.val (.ref o0), .val (.ref o1), .val (.int (0 : Int32))] [])) _
      refine XS.iinc X0.here hx rfl (hb hby d4_26) rfl (l' := #[.val (.ref o0), .val (.ref o1), .val (.int (1 : Int32))]) rfl ?_
      show Steps p.tables e below (s₁.setTop (mkF m 29 #[.val (.ref o0), .val (.ref o1), .val (.int (1 : Int32))] [])) _
      refine XS.goto X0.here hx rfl (pc0 := 29) (pc' := 9) rfl (hb hby d4_29) (by decide) (by decide) ?_
      show Steps p.tables e below (s₁.setTop (mkF m 9 #[.val (.ref o0), .val (.ref o1), .val (.int (1 : Int32))] [])) _
      refine XS.iloadN X0.here hx rfl (hb hby d4_9) rfl ?_
      show Steps p.tables e below (s₁.setTop (mkF m 10 #[.val (.ref o0), .val (.ref o1), .val (.int (1 : Int32))] [(.int (1 : Int32))])) _
      refine XS.aloadN X0.here hx rfl (hb hby d4_10) rfl rfl ?_
      show Steps p.tables e below (s₁.setTop (mkF m 11 #[.val (.ref o0), .val (.ref o1), .val (.int (1 : Int32))] [(.ref o0), (.int (1 : Int32))])) _
      refine X0.arraylength hx (by rw [e0]; exact Ar8.1) (State.isArrayOf_alike hZ.alike Ar8.2.1) (g := (mkF m 11 #[.val (.ref o0), .val (.ref o1), .val (.int (1 : Int32))] [(.ref o0), (.int (1 : Int32))])) rfl rfl (hb hby d4_11) _ ?_
      rw [len_of S8 N8']
      show Steps p.tables e below (s₁.setTop (mkF m 12 #[.val (.ref o0), .val (.ref o1), .val (.int (1 : Int32))] [(.int (1 : Int32)), (.int (1 : Int32))])) _
      refine XS.icmpYes X0.here hx rfl (pc0 := 12) (pc' := 32) rfl (hb hby d4_12) rfl (flt ((by decide) : ¬ ((1 : Int32) < (1 : Int32)))).2.1 (by decide) (by decide) ?_
      show Steps p.tables e below (s₁.setTop (mkF m 32 #[.val (.ref o0), .val (.ref o1), .val (.int (1 : Int32))] [])) _
      refine XS.iconst X0.here hx rfl (hb hby d4_32) ?_
      show Steps p.tables e below (s₁.setTop (mkF m 33 #[.val (.ref o0), .val (.ref o1), .val (.int (1 : Int32))] [(.int (1 : Int32))])) _
      exact retN X0 hx (t := .boolean) Bd.returns (by simp) (hb hby d4_33) hr
    · show rm4Q Z o0 o1 c0 c1 h0 n0 _ s₁.heap _
      rw [e0]
      exact ⟨(by rw [own_eqc, if_pos hc21_7]), N0, rfl⟩
  · obtain ⟨fs, hr, hrun, hended, hW, hsame⟩ := X0.leave (v := some (.int (0 : Int32))) (fun h => by rw [Bd.returns] at h; cases h)
    refine ⟨_, _, pre6 _ ?_, hrun, hended, _, _, rfl, ?_, ⟨_, rfl⟩, hW, hsame.mono (by decide) (by decide)⟩
    · show Steps p.tables e below (s₁.setTop (mkF m 21 #[.val (.ref o0), .val (.ref o1), .val (.int (0 : Int32))] [(.int c1), (.int c0)])) _
      refine XS.icmpNo X0.here hx rfl (hb hby d4_21) rfl (feq hc21_7).1 ?_
      show Steps p.tables e below (s₁.setTop (mkF m 24 #[.val (.ref o0), .val (.ref o1), .val (.int (0 : Int32))] [])) _
      refine XS.iconst X0.here hx rfl (hb hby d4_24) ?_
      show Steps p.tables e below (s₁.setTop (mkF m 25 #[.val (.ref o0), .val (.ref o1), .val (.int (0 : Int32))] [(.int (0 : Int32))])) _
      exact retN X0 hx (t := .boolean) Bd.returns (by simp) (hb hby d4_25) hr
    · show rm4Q Z o0 o1 c0 c1 h0 n0 _ s₁.heap _
      rw [e0]
      exact ⟨(by rw [own_eqc, if_neg hc21_7]), N0, rfl⟩
theorem d3_0 : decode jdk_42_method_66_code 0 = .ok (.aload_n 0, 1) := by decide +kernel
theorem d3_1 : decode jdk_42_method_66_code 1 = .ok (.aload_n 1, 1) := by decide +kernel
theorem d3_2 : decode jdk_42_method_66_code 2 = .ok (.if_acmp .ne 5, 3) := by decide +kernel
theorem d3_5 : decode jdk_42_method_66_code 5 = .ok (.iconst 1, 1) := by decide +kernel
theorem d3_6 : decode jdk_42_method_66_code 6 = .ok (.ireturn, 1) := by decide +kernel
theorem d3_7 : decode jdk_42_method_66_code 7 = .ok (.aload_n 1, 1) := by decide +kernel
theorem d3_8 : decode jdk_42_method_66_code 8 = .ok (.instanceof 10, 3) := by decide +kernel
theorem d3_11 : decode jdk_42_method_66_code 11 = .ok (.ifCond .eq 43, 3) := by decide +kernel
theorem d3_14 : decode jdk_42_method_66_code 14 = .ok (.aload_n 1, 1) := by decide +kernel
theorem d3_15 : decode jdk_42_method_66_code 15 = .ok (.checkcast 10, 3) := by decide +kernel
theorem d3_18 : decode jdk_42_method_66_code 18 = .ok (.astore_n 2, 1) := by decide +kernel
theorem d3_19 : decode jdk_42_method_66_code 19 = .ok (.getstatic 38, 3) := by decide +kernel
theorem d3_22 : decode jdk_42_method_66_code 22 = .ok (.ifCond .eq 14, 3) := by decide +kernel
theorem d3_25 : decode jdk_42_method_66_code 25 = .ok (.aload_n 0, 1) := by decide +kernel
theorem d3_26 : decode jdk_42_method_66_code 26 = .ok (.getfield 15, 3) := by decide +kernel
theorem d3_29 : decode jdk_42_method_66_code 29 = .ok (.aload_n 2, 1) := by decide +kernel
theorem d3_30 : decode jdk_42_method_66_code 30 = .ok (.getfield 15, 3) := by decide +kernel
theorem d3_33 : decode jdk_42_method_66_code 33 = .ok (.if_icmp .ne 21, 3) := by decide +kernel
theorem d3_36 : decode jdk_42_method_66_code 36 = .ok (.aload_n 0, 1) := by decide +kernel
theorem d3_37 : decode jdk_42_method_66_code 37 = .ok (.getfield 9, 3) := by decide +kernel
theorem d3_40 : decode jdk_42_method_66_code 40 = .ok (.aload_n 2, 1) := by decide +kernel
theorem d3_41 : decode jdk_42_method_66_code 41 = .ok (.getfield 9, 3) := by decide +kernel
theorem d3_44 : decode jdk_42_method_66_code 44 = .ok (.invokestatic 541, 3) := by decide +kernel
theorem d3_47 : decode jdk_42_method_66_code 47 = .ok (.ifCond .eq 7, 3) := by decide +kernel
theorem d3_50 : decode jdk_42_method_66_code 50 = .ok (.iconst 1, 1) := by decide +kernel
theorem d3_51 : decode jdk_42_method_66_code 51 = .ok (.goto 4, 3) := by decide +kernel
theorem d3_54 : decode jdk_42_method_66_code 54 = .ok (.iconst 0, 1) := by decide +kernel
theorem d3_55 : decode jdk_42_method_66_code 55 = .ok (.ireturn, 1) := by decide +kernel
theorem pn_3 : plainName "java/lang/String" = true := by first | (simp [plainName, overriddenIn]; done) | decide +kernel
theorem pd_rm3_0 : parseMethodDescriptor "([B[B)Z" = some ⟨[(.array .byte), (.array .byte)], some .boolean⟩ := by decide +kernel
theorem ef_rm3 (m : MethodId) (o0 : Addr) (o1 : Addr) : entryFrame m #[(.ref o0), (.ref o1)] 3 = mkF m 0 #[.val (.ref o0), .val (.ref o1), .unset] [] := by first | (simp [entryFrame, mkF, argsToLocals, Value.category]; done) | rfl
def rm3Q (Z : State) (o0 o1 : Addr) (c0 c1 : Int32) (h0 : Heap) (n0 : Nat) (v : Option Value) (h : Heap) (L : List Loc) : Prop := v = some (.int (own_eqc c0 c1)) ∧ Fr n0 L ∧ h = h0
set_option maxRecDepth 65536 in
set_option maxHeartbeats 40000000 in
theorem rm3 (l : Launch) (Z : State) (aw : Array Value) (hw : ∀ d ∈ tables_1, d.before aw Z = true) (ws : List Jvm.Cond) (o0 : Addr) (o1 : Addr) (b0 b1 : Addr) (k0 k1 : ClassId) (c0 c1 cz : Int32) (h0 : Heap) (n0 : Nat) (Z0 : n0 ≤ h0.size) (E0 : Exa Z h0 o0 "java/lang/String") (E1 : Exa Z h0 o1 "java/lang/String") (Sc : Sta Z h0 "java/lang/String" "COMPACT_STRINGS" "Z" (.int cz)) (hcz : ¬ cz = (0 : Int32)) (Fc0 : Fld Z h0 o0 "java/lang/String" "coder" "B" (.int (0 : Int32))) (Fv0 : Fld Z h0 o0 "java/lang/String" "value" "[B" (.ref b0)) (V0 : Arv Z h0 b0 k0 .byte (1 : Int32) [(.int c0)] (.int (0 : Int32))) (Fc1 : Fld Z h0 o1 "java/lang/String" "coder" "B" (.int (0 : Int32))) (Fv1 : Fld Z h0 o1 "java/lang/String" "value" "[B" (.ref b1)) (V1 : Arv Z h0 b1 k1 .byte (1 : Int32) [(.int c1)] (.int (0 : Int32))) :
    MetFree l (⟨"java/lang/String", "equals", "(Ljava/lang/Object;)Z"⟩ : MethodName) (head1 (Jvm.Cond.code (⟨"java/lang/String", "equals", "(Ljava/lang/Object;)Z"⟩ : MethodName) jdk_42_method_66_code 3 (some .boolean) :: ws) ({ frames := 1, cells := 0, slots := 0, locals := 14 } : Room)) (fun a U => a = #[(.ref o0), (.ref o1)] ∧ Z.Warmed39 U.vm ∧ U.heap = h0) (fun _ _ _ _ _ => True) (fun _ U o U' => ∃ v L, o = .returned v ∧ rm3Q Z o0 o1 c0 c1 h0 n0 v U'.heap L ∧ FrameEnd U o U' L ({ frames := 1, cells := 0, slots := 0, locals := 14 } : Room).cells ({ frames := 1, cells := 0, slots := 0, locals := 14 } : Room).slots) := by
  refine MetFree.of_bodySF (plainFor_of_name pn_3) hisR ?_
  intro p e s m args below meth c s₁ Bd hml0 hP hK
  obtain ⟨rfl, hZ, hh⟩ := hP
  have hx := Bd.exec
  have hby := Bd.bytes
  have hml : c.maxLocals = 3 := hml0
  have hown : s.vm.findClass "java/lang/String" = some m.cls := findClass_of_methodNamed Bd.named
  have hnm := (name_of_methodNamed Bd.named Bd.method).1
  have X0 : Stand p l e ({ frames := 1, cells := 0, slots := 0, locals := 14 } : Room) s m #[(.ref o0), (.ref o1)] below meth c s₁ [] 0 0 := Stand.of_body Bd
  have e0 : s₁.heap = h0 := by rw [← hh, Bd.state]; rfl
  have N0 := Fr.nil n0
  have pre0 : ∀ t, Steps p.tables e below (s₁.setTop (mkF m 0 #[.val (.ref o0), .val (.ref o1), .unset] [])) t → Steps p.tables e below (s₁.setTop (entryFrame m #[(.ref o0), (.ref o1)] 3)) t := fun t k => castTop (ef_rm3 m o0 o1) k
  have pre1 : ∀ t, Steps p.tables e below (s₁.setTop (mkF m 2 #[.val (.ref o0), .val (.ref o1), .unset] [(.ref o1), (.ref o0)])) t → Steps p.tables e below (s₁.setTop (entryFrame m #[(.ref o0), (.ref o1)] 3)) t := fun t k => pre0 t (by
    show Steps p.tables e below (s₁.setTop (mkF m 0 #[.val (.ref o0), .val (.ref o1), .unset] [])) _
    refine XS.aloadN X0.here hx rfl (hb hby d3_0) rfl rfl ?_
    show Steps p.tables e below (s₁.setTop (mkF m 1 #[.val (.ref o0), .val (.ref o1), .unset] [(.ref o0)])) _
    refine XS.aloadN X0.here hx rfl (hb hby d3_1) rfl rfl ?_
    exact k)
  by_cases hc2_2 : o0 = o1
  · obtain ⟨fs, hr, hrun, hended, hW, hsame⟩ := X0.leave (v := some (.int (1 : Int32))) (fun h => by rw [Bd.returns] at h; cases h)
    refine ⟨_, _, pre1 _ ?_, hrun, hended, _, _, rfl, ?_, ⟨_, rfl⟩, hW, hsame.mono (by decide) (by decide)⟩
    · show Steps p.tables e below (s₁.setTop (mkF m 2 #[.val (.ref o0), .val (.ref o1), .unset] [(.ref o1), (.ref o0)])) _
      refine Jvm.RoadKit.acmp (g := (mkF m 2 #[.val (.ref o0), .val (.ref o1), .unset] [(.ref o1), (.ref o0)])) X0 hx rfl rfl rfl (pc0 := 2) (pc' := 5) (same := true) rfl (hb hby d3_2) rfl (decide_eq_true (congrArg Value.ref hc2_2)) (by decide) (by decide) ?_
      show Steps p.tables e below (s₁.setTop (mkF m 5 #[.val (.ref o0), .val (.ref o1), .unset] [])) _
      refine XS.iconst X0.here hx rfl (hb hby d3_5) ?_
      show Steps p.tables e below (s₁.setTop (mkF m 6 #[.val (.ref o0), .val (.ref o1), .unset] [(.int (1 : Int32))])) _
      exact retN X0 hx (t := .boolean) Bd.returns (by simp) (hb hby d3_6) hr
    · show rm3Q Z o0 o1 c0 c1 h0 n0 _ s₁.heap _
      rw [e0]
      exact ⟨(by rw [own_eqc, if_pos (own_same hc2_2 Fv0 Fv1 V0 V1)]), N0, rfl⟩
  · obtain ⟨T3, X3, e3, st3⟩ := instY X0 hx hZ hown (hw _ (List.mem_of_getElem? (i := 29) rfl)) e0 (Ins.self E1) (g := (mkF m 8 #[.val (.ref o0), .val (.ref o1), .unset] [(.ref o1)])) rfl rfl (hb hby d3_8)
    obtain ⟨T4, X4, e4, st4⟩ := castY X3 hx hZ hown (hw _ (List.mem_of_getElem? (i := 29) rfl)) e3 (Ins.self E1) (g := (mkF m 15 #[.val (.ref o0), .val (.ref o1), .unset] [(.ref o1)])) rfl rfl (hb hby d3_15)
    obtain ⟨T5, X5, e5, st5⟩ := getS2 X4 hx hZ hown (host := "") (Or.inl (hw _ (List.mem_of_getElem? (i := 31) rfl))) Via.refl e4 Sc (g := (mkF m 19 #[.val (.ref o0), .val (.ref o1), .val (.ref o1)] [])) rfl (hb hby d3_19)
    obtain ⟨T6, X6, e6, st6⟩ := getF X5 hx hZ hown (host := "") (Or.inl (hw _ (List.mem_of_getElem? (i := 32) rfl))) Via.refl e5 Fc0 (g := (mkF m 26 #[.val (.ref o0), .val (.ref o1), .val (.ref o1)] [(.ref o0)])) rfl rfl (hb hby d3_26)
    obtain ⟨T7, X7, e7, st7⟩ := getF X6 hx hZ hown (host := "") (Or.inl (hw _ (List.mem_of_getElem? (i := 32) rfl))) Via.refl e6 Fc1 (g := (mkF m 30 #[.val (.ref o0), .val (.ref o1), .val (.ref o1)] [(.ref o1), (.int (0 : Int32))])) rfl rfl (hb hby d3_30)
    obtain ⟨T8, X8, e8, st8⟩ := getF X7 hx hZ hown (host := "") (Or.inl (hw _ (List.mem_of_getElem? (i := 33) rfl))) Via.refl e7 Fv0 (g := (mkF m 37 #[.val (.ref o0), .val (.ref o1), .val (.ref o1)] [(.ref o0)])) rfl rfl (hb hby d3_37)
    obtain ⟨T9, X9, e9, st9⟩ := getF X8 hx hZ hown (host := "") (Or.inl (hw _ (List.mem_of_getElem? (i := 33) rfl))) Via.refl e8 Fv1 (g := (mkF m 41 #[.val (.ref o0), .val (.ref o1), .val (.ref o1)] [(.ref o1), (.ref b0)])) rfl rfl (hb hby d3_41)
    obtain ⟨_, _, ⟨T10, L10, k10, n10⟩, -, X10, ⟨Lc10, hQ10, l10, y10, z10⟩, st10⟩ := Jvm.LawKit.callS X9 hx (y := (⟨"java/lang/StringLatin1", "equals", "([B[B)Z"⟩ : MethodName)) hown (mvT hZ (hw _ (List.mem_of_getElem? (i := 34) rfl))) (mvT hZ (hw _ (List.mem_of_getElem? (i := 35) rfl))) (mvT hZ (hw _ (List.mem_of_getElem? (i := 36) rfl))) (mvT hZ (hw _ (List.mem_of_getElem? (i := 37) rfl))) (by decide) (backOf (W := 0) (rm4 l Z aw hw [] b0 b1 k0 k1 c0 c1 h0 n0 Z0 V0 V1) hZ (hw _ (List.mem_of_getElem? (i := 37) rfl)) (hw _ (List.mem_of_getElem? (i := 36) rfl)) (by decide) (by decide)) (g := (mkF m 44 #[.val (.ref o0), .val (.ref o1), .val (.ref o1)] [(.ref b1), (.ref b0)])) rfl (by rw [hml]; rfl) (argsL := [(.ref b0), (.ref b1)]) (rest := []) (lenOf pd_rm3_0 rfl) rfl (by show 2 * 0 + _ ≤ _; exact Nat.le_of_eq rfl) (hb hby d3_44) (fun _ _ => ⟨rfl, e9, (by decide : 0 + 0 ≤ _), (by decide : 0 + 0 ≤ _)⟩)
    dsimp only [Pt.U, Pt.locs, Pt.cells, Pt.slots] at X10 l10 y10 z10 st10 hQ10
    subst l10 y10 z10
    obtain ⟨rfl, N10q, e10q⟩ := hQ10
    have N10 := Fr.app N0 N10q
    have pre11 : ∀ t, Steps p.tables e below (T10.setTop (mkF m 47 #[.val (.ref o0), .val (.ref o1), .val (.ref o1)] [(.int (own_eqc c0 c1))])) t → Steps p.tables e below (s₁.setTop (entryFrame m #[(.ref o0), (.ref o1)] 3)) t := fun t k => pre1 t (by
      show Steps p.tables e below (s₁.setTop (mkF m 2 #[.val (.ref o0), .val (.ref o1), .unset] [(.ref o1), (.ref o0)])) _
      refine Jvm.RoadKit.acmp (g := (mkF m 2 #[.val (.ref o0), .val (.ref o1), .unset] [(.ref o1), (.ref o0)])) X0 hx rfl rfl rfl (pc0 := 2) (pc' := 7) (same := false) rfl (hb hby d3_2) rfl (decide_eq_false fun q => hc2_2 (Value.ref.inj q)) (by decide) (by decide) ?_
      show Steps p.tables e below (s₁.setTop (mkF m 7 #[.val (.ref o0), .val (.ref o1), .unset] [])) _
      refine XS.aloadN X0.here hx rfl (hb hby d3_7) rfl rfl ?_
      show Steps p.tables e below (s₁.setTop (mkF m 8 #[.val (.ref o0), .val (.ref o1), .unset] [(.ref o1)])) _
      refine st3 _ ?_
      show Steps p.tables e below (T3.setTop (mkF m 11 #[.val (.ref o0), .val (.ref o1), .unset] [(.int (1 : Int32))])) _
      refine XS.ifNo X3.here hx rfl (hb hby d3_11) rfl ((if0 _ _).trans (feq (by decide : ¬ ((1 : Int32) = (0 : Int32)))).1) ?_
      show Steps p.tables e below (T3.setTop (mkF m 14 #[.val (.ref o0), .val (.ref o1), .unset] [])) _
      refine XS.aloadN X3.here hx rfl (hb hby d3_14) rfl rfl ?_
      show Steps p.tables e below (T3.setTop (mkF m 15 #[.val (.ref o0), .val (.ref o1), .unset] [(.ref o1)])) _
      refine st4 _ ?_
      show Steps p.tables e below (T4.setTop (mkF m 18 #[.val (.ref o0), .val (.ref o1), .unset] [(.ref o1)])) _
      refine XS.astoreN X4.here hx rfl (hb hby d3_18) rfl rfl (l' := #[.val (.ref o0), .val (.ref o1), .val (.ref o1)]) rfl ?_
      show Steps p.tables e below (T4.setTop (mkF m 19 #[.val (.ref o0), .val (.ref o1), .val (.ref o1)] [])) _
      refine st5 _ ?_
      show Steps p.tables e below (T5.setTop (mkF m 22 #[.val (.ref o0), .val (.ref o1), .val (.ref o1)] [(.int cz)])) _
      refine XS.ifNo X5.here hx rfl (hb hby d3_22) rfl ((if0 _ _).trans (feq (hcz : ¬ (cz = (0 : Int32)))).1) ?_
      show Steps p.tables e below (T5.setTop (mkF m 25 #[.val (.ref o0), .val (.ref o1), .val (.ref o1)] [])) _
      refine XS.aloadN X5.here hx rfl (hb hby d3_25) rfl rfl ?_
      show Steps p.tables e below (T5.setTop (mkF m 26 #[.val (.ref o0), .val (.ref o1), .val (.ref o1)] [(.ref o0)])) _
      refine st6 _ ?_
      show Steps p.tables e below (T6.setTop (mkF m 29 #[.val (.ref o0), .val (.ref o1), .val (.ref o1)] [(.int (0 : Int32))])) _
      refine XS.aloadN X6.here hx rfl (hb hby d3_29) rfl rfl ?_
      show Steps p.tables e below (T6.setTop (mkF m 30 #[.val (.ref o0), .val (.ref o1), .val (.ref o1)] [(.ref o1), (.int (0 : Int32))])) _
      refine st7 _ ?_
      show Steps p.tables e below (T7.setTop (mkF m 33 #[.val (.ref o0), .val (.ref o1), .val (.ref o1)] [(.int (0 : Int32)), (.int (0 : Int32))])) _
      refine XS.icmpNo X7.here hx rfl (hb hby d3_33) rfl (teq (rfl : (0 : Int32) = (0 : Int32))).2 ?_
      show Steps p.tables e below (T7.setTop (mkF m 36 #[.val (.ref o0), .val (.ref o1), .val (.ref o1)] [])) _
      refine XS.aloadN X7.here hx rfl (hb hby d3_36) rfl rfl ?_
      show Steps p.tables e below (T7.setTop (mkF m 37 #[.val (.ref o0), .val (.ref o1), .val (.ref o1)] [(.ref o0)])) _
      refine st8 _ ?_
      show Steps p.tables e below (T8.setTop (mkF m 40 #[.val (.ref o0), .val (.ref o1), .val (.ref o1)] [(.ref b0)])) _
      refine XS.aloadN X8.here hx rfl (hb hby d3_40) rfl rfl ?_
      show Steps p.tables e below (T8.setTop (mkF m 41 #[.val (.ref o0), .val (.ref o1), .val (.ref o1)] [(.ref o1), (.ref b0)])) _
      refine st9 _ ?_
      show Steps p.tables e below (T9.setTop (mkF m 44 #[.val (.ref o0), .val (.ref o1), .val (.ref o1)] [(.ref b1), (.ref b0)])) _
      refine st10 _ ?_
      exact k)
    by_cases hc47_12 : (own_eqc c0 c1) = (0 : Int32)
    · obtain ⟨fs, hr, hrun, hended, hW, hsame⟩ := X10.leave (v := some (.int (0 : Int32))) (fun h => by rw [Bd.returns] at h; cases h)
      refine ⟨_, _, pre11 _ ?_, hrun, hended, _, _, rfl, ?_, ⟨_, rfl⟩, hW, hsame.mono (by decide) (by decide)⟩
      · show Steps p.tables e below (T10.setTop (mkF m 47 #[.val (.ref o0), .val (.ref o1), .val (.ref o1)] [(.int (own_eqc c0 c1))])) _
        refine XS.ifYes X10.here hx rfl (pc0 := 47) (pc' := 54) rfl (hb hby d3_47) rfl ((if0 _ _).trans (teq hc47_12).1) (by decide) (by decide) ?_
        show Steps p.tables e below (T10.setTop (mkF m 54 #[.val (.ref o0), .val (.ref o1), .val (.ref o1)] [])) _
        refine XS.iconst X10.here hx rfl (hb hby d3_54) ?_
        show Steps p.tables e below (T10.setTop (mkF m 55 #[.val (.ref o0), .val (.ref o1), .val (.ref o1)] [(.int (0 : Int32))])) _
        exact retN X10 hx (t := .boolean) Bd.returns (by simp) (hb hby d3_55) hr
      · show rm3Q Z o0 o1 c0 c1 h0 n0 _ T10.heap _
        rw [e10q]
        exact ⟨(by rw [hc47_12]), N10, rfl⟩
    · obtain ⟨fs, hr, hrun, hended, hW, hsame⟩ := X10.leave (v := some (.int (1 : Int32))) (fun h => by rw [Bd.returns] at h; cases h)
      refine ⟨_, _, pre11 _ ?_, hrun, hended, _, _, rfl, ?_, ⟨_, rfl⟩, hW, hsame.mono (by decide) (by decide)⟩
      · show Steps p.tables e below (T10.setTop (mkF m 47 #[.val (.ref o0), .val (.ref o1), .val (.ref o1)] [(.int (own_eqc c0 c1))])) _
        refine XS.ifNo X10.here hx rfl (hb hby d3_47) rfl ((if0 _ _).trans (feq hc47_12).1) ?_
        show Steps p.tables e below (T10.setTop (mkF m 50 #[.val (.ref o0), .val (.ref o1), .val (.ref o1)] [])) _
        refine XS.iconst X10.here hx rfl (hb hby d3_50) ?_
        show Steps p.tables e below (T10.setTop (mkF m 51 #[.val (.ref o0), .val (.ref o1), .val (.ref o1)] [(.int (1 : Int32))])) _
        refine XS.goto X10.here hx rfl (pc0 := 51) (pc' := 55) rfl (hb hby d3_51) (by decide) (by decide) ?_
        show Steps p.tables e below (T10.setTop (mkF m 55 #[.val (.ref o0), .val (.ref o1), .val (.ref o1)] [(.int (1 : Int32))])) _
        exact retN X10 hx (t := .boolean) Bd.returns (by simp) (hb hby d3_55) hr
      · show rm3Q Z o0 o1 c0 c1 h0 n0 _ T10.heap _
        rw [e10q]
        exact ⟨(by rw [own_eq1 hc47_12]), N10, rfl⟩
theorem pn_0 : plainName "com/example/querent/querent/language/OperatorIsAdditivePinLaw" = true := by first | (simp [plainName, overriddenIn]; done) | decide +kernel
theorem pd_rm0_0 : parseMethodDescriptor "()Z" = some ⟨[], some .boolean⟩ := by decide +kernel
theorem pd_rm0_1 : parseMethodDescriptor "()Ljava/lang/String;" = some ⟨[], some (.object "java/lang/String")⟩ := by decide +kernel
theorem pd_rm0_2 : parseMethodDescriptor "(Ljava/lang/Object;)Z" = some ⟨[(.object "java/lang/Object")], some .boolean⟩ := by decide +kernel
theorem ef_rm0 (m : MethodId) (p0 : Int32) : entryFrame m #[(.int p0)] maxLocals = mkF m 0 #[.val (.int p0), .unset, .unset, .unset, .unset, .unset, .unset] [] := by first | (simp [entryFrame, mkF, argsToLocals, Value.category, maxLocals]; done) | rfl
def rm0Q (Z : State) (p0 : Int32) (h0 : Heap) (n0 : Nat) (v : Option Value) (h : Heap) (L : List Loc) : Prop := v = some (.int (1 : Int32)) ∧ Fr n0 L
set_option maxRecDepth 65536 in
set_option maxHeartbeats 40000000 in
theorem rm0 (l : Launch) (Z : State) (aw : Array Value) (hw : ∀ d ∈ tables_1, d.before aw Z = true) (ws : List Jvm.Cond) (p0 : Int32) (cz : Int32) (u0 u1 u2 u3 y0 y1 y2 y3 z0 z1 z2 z3 : Addr) (kz0 kz1 kz2 kz3 : ClassId) (h0 : Heap) (n0 : Nat) (Z0 : n0 ≤ h0.size) (Sc : Sta Z h0 "java/lang/String" "COMPACT_STRINGS" "Z" (.int cz)) (hcz : ¬ cz = (0 : Int32)) (Sx0 : Sta Z h0 "com/example/querent/querent/language/Arithmetic$Operator" "ADD" "Lcom/example/querent/querent/language/Arithmetic$Operator;" (.ref u0)) (Eu0 : Exa Z h0 u0 "com/example/querent/querent/language/Arithmetic$Operator") (Fs0 : Fld Z h0 u0 "com/example/querent/querent/language/Arithmetic$Operator" "symbol" "Ljava/lang/String;" (.ref y0)) (Ey0 : Exa Z h0 y0 "java/lang/String") (Fc0 : Fld Z h0 y0 "java/lang/String" "coder" "B" (.int (0 : Int32))) (Fv0 : Fld Z h0 y0 "java/lang/String" "value" "[B" (.ref z0)) (Vz0 : Arv Z h0 z0 kz0 .byte (1 : Int32) [(.int (43 : Int32))] (.int (0 : Int32))) (Sx1 : Sta Z h0 "com/example/querent/querent/language/Arithmetic$Operator" "SUBTRACT" "Lcom/example/querent/querent/language/Arithmetic$Operator;" (.ref u1)) (Eu1 : Exa Z h0 u1 "com/example/querent/querent/language/Arithmetic$Operator") (Fs1 : Fld Z h0 u1 "com/example/querent/querent/language/Arithmetic$Operator" "symbol" "Ljava/lang/String;" (.ref y1)) (Ey1 : Exa Z h0 y1 "java/lang/String") (Fc1 : Fld Z h0 y1 "java/lang/String" "coder" "B" (.int (0 : Int32))) (Fv1 : Fld Z h0 y1 "java/lang/String" "value" "[B" (.ref z1)) (Vz1 : Arv Z h0 z1 kz1 .byte (1 : Int32) [(.int (45 : Int32))] (.int (0 : Int32))) (Sx2 : Sta Z h0 "com/example/querent/querent/language/Arithmetic$Operator" "MULTIPLY" "Lcom/example/querent/querent/language/Arithmetic$Operator;" (.ref u2)) (Eu2 : Exa Z h0 u2 "com/example/querent/querent/language/Arithmetic$Operator") (Fs2 : Fld Z h0 u2 "com/example/querent/querent/language/Arithmetic$Operator" "symbol" "Ljava/lang/String;" (.ref y2)) (Ey2 : Exa Z h0 y2 "java/lang/String") (Fc2 : Fld Z h0 y2 "java/lang/String" "coder" "B" (.int (0 : Int32))) (Fv2 : Fld Z h0 y2 "java/lang/String" "value" "[B" (.ref z2)) (Vz2 : Arv Z h0 z2 kz2 .byte (1 : Int32) [(.int (42 : Int32))] (.int (0 : Int32))) (Sx3 : Sta Z h0 "com/example/querent/querent/language/Arithmetic$Operator" "DIVIDE" "Lcom/example/querent/querent/language/Arithmetic$Operator;" (.ref u3)) (Eu3 : Exa Z h0 u3 "com/example/querent/querent/language/Arithmetic$Operator") (Fs3 : Fld Z h0 u3 "com/example/querent/querent/language/Arithmetic$Operator" "symbol" "Ljava/lang/String;" (.ref y3)) (Ey3 : Exa Z h0 y3 "java/lang/String") (Fc3 : Fld Z h0 y3 "java/lang/String" "coder" "B" (.int (0 : Int32))) (Fv3 : Fld Z h0 y3 "java/lang/String" "value" "[B" (.ref z3)) (Vz3 : Arv Z h0 z3 kz3 .byte (1 : Int32) [(.int (47 : Int32))] (.int (0 : Int32))) (ne01 : u0 ≠ u1) (ne02 : u0 ≠ u2) (ne03 : u0 ≠ u3) (ne12 : u1 ≠ u2) (ne13 : u1 ≠ u3) (hn0 : n0 = h0.size) (hkp : Z.heap = h0) (hch1 : Jvm.Lit.constHeld Z "com/example/querent/querent/language/OperatorIsAdditivePinLaw" 30) (hch2 : Jvm.Lit.constHeld Z "com/example/querent/querent/language/OperatorIsAdditivePinLaw" 38) (hcw : Jvm.Lit.compactW.before aw Z = true) :
    MetFree l x (head1 (Jvm.Cond.code x code maxLocals ret :: ws) room_1) (fun a U => a = #[(.int p0)] ∧ Z.Warmed39 U.vm ∧ U.heap = h0 ∧ IB Z U.vm []) (fun _ _ _ _ _ => True) (fun _ U o U' => ∃ v L, o = .returned v ∧ rm0Q Z p0 h0 n0 v U'.heap L ∧ ReturnedEndW U o U' L room_1.cells room_1.slots) := by
  refine MetFree.of_bodySF (plainFor_of_name pn_0) hisR ?_
  intro p e s m args below meth c s₁ Bd hml0 hP hK
  obtain ⟨rfl, hZ, hh, hIB⟩ := hP
  have hx := Bd.exec
  have hby := Bd.bytes
  have hml : c.maxLocals = 7 := hml0
  have hown : s.vm.findClass "com/example/querent/querent/language/OperatorIsAdditivePinLaw" = some m.cls := findClass_of_methodNamed Bd.named
  have hnm := (name_of_methodNamed Bd.named Bd.method).1
  have X0 : Stand p l e room_1 s m #[(.int p0)] below meth c s₁ [] 0 0 := Stand.of_body Bd
  have e0 : s₁.heap = h0 := by rw [← hh, Bd.state]; rfl
  have N0 := Fr.nil n0
  have pre0 : ∀ t, Steps p.tables e below (s₁.setTop (mkF m 0 #[.val (.int p0), .unset, .unset, .unset, .unset, .unset, .unset] [])) t → Steps p.tables e below (s₁.setTop (entryFrame m #[(.int p0)] maxLocals)) t := fun t k => castTop (ef_rm0 m p0) k
  have own_strW : ∀ a ∈ Bundle.stringAtoms, a.before aw Z = true := fun a ha => hw a (own_strIn a ha)
  have hkp0 : ∀ (b : Addr) (cl : Cell), Z.heap[b]? = some cl → s.heap[b]? = some cl := fun b cl q => by rw [hh, ← hkp]; exact q
  have hS0 : s.Since s.vm 0 := State.WarmedH.since (State.WarmedH.refl s) 0
  have X0 : Stand p l e room_1 (s.setVm s.vm) m #[(.int p0)] below meth c s₁ [] 0 0 := X0
  have hZ : Z.Warmed39 (s.setVm s.vm).vm := hZ
  have hown : (s.setVm s.vm).vm.findClass "com/example/querent/querent/language/OperatorIsAdditivePinLaw" = some m.cls := hown
  have pre1 : ∀ t, Steps p.tables e below (s₁.setTop (mkF m 3 #[.val (.int p0), .unset, .unset, .unset, .unset, .unset, .unset] [(.int (p0 &&& (3 : Int32)))])) t → Steps p.tables e below (s₁.setTop (entryFrame m #[(.int p0)] maxLocals)) t := fun t k => pre0 t (by
    show Steps p.tables e below (s₁.setTop (mkF m 0 #[.val (.int p0), .unset, .unset, .unset, .unset, .unset, .unset] [])) _
    refine XS.iloadN X0.here hx rfl (hb hby at_0) rfl ?_
    show Steps p.tables e below (s₁.setTop (mkF m 1 #[.val (.int p0), .unset, .unset, .unset, .unset, .unset, .unset] [(.int p0)])) _
    refine XS.iconst X0.here hx rfl (hb hby at_1) ?_
    show Steps p.tables e below (s₁.setTop (mkF m 2 #[.val (.int p0), .unset, .unset, .unset, .unset, .unset, .unset] [(.int (3 : Int32)), (.int p0)])) _
    refine XS.iand X0.here hx rfl (hb hby at_2) rfl ?_
    exact k)
  obtain ⟨ii, hii⟩ : ∃ z : Int32, z = (p0 &&& (3 : Int32)) := ⟨_, rfl⟩
  rw [← hii] at pre1
  have pre2 : ∀ t, Steps p.tables e below (s₁.setTop (mkF m 4 #[.val (.int p0), .val (.int ii), .unset, .unset, .unset, .unset, .unset] [])) t → Steps p.tables e below (s₁.setTop (entryFrame m #[(.int p0)] maxLocals)) t := fun t k => pre1 t (by
    show Steps p.tables e below (s₁.setTop (mkF m 3 #[.val (.int p0), .unset, .unset, .unset, .unset, .unset, .unset] [(.int ii)])) _
    refine XS.istoreN X0.here hx rfl (hb hby at_3) rfl (l' := #[.val (.int p0), .val (.int ii), .unset, .unset, .unset, .unset, .unset]) rfl ?_
    exact k)
  rcases own_n4 hii with rfl | rfl | rfl | rfl
  · obtain ⟨T3, X3, e3, st3⟩ := getS2 X0 hx hZ hown (host := "") (Or.inl (hw _ (List.mem_of_getElem? (i := 0) rfl))) Via.refl e0 Sx0 (g := (mkF m 8 #[.val (.int p0), .val (.int (0 : Int32)), .unset, .unset, .unset, .unset, .unset] [])) rfl (hb hby at_8)
    obtain ⟨cq4, kq4, q4a, q4b, q4c⟩ := isOf hZ e3 (Eu0)
    obtain ⟨_, _, ⟨T4, L4, k4, n4⟩, -, X4, ⟨Lc4, hQ4, l4, y4, z4⟩, st4⟩ := X3.virtualBack hx (y := (⟨"com/example/querent/querent/language/Arithmetic$Operator", "isAdditive", "()Z"⟩ : MethodName)) (z := (⟨"com/example/querent/querent/language/Arithmetic$Operator", "isAdditive", "()Z"⟩ : MethodName)) hown (mvT hZ (hw _ (List.mem_of_getElem? (i := 3) rfl))) (mvT hZ (hw _ (List.mem_of_getElem? (i := 4) rfl))) (notFace_of_selects (args := #[]) (mvT hZ (hw _ (List.mem_of_getElem? (i := 6) rfl)))) (mvT hZ (hw _ (List.mem_of_getElem? (i := 6) rfl))) (mvT hZ (hw _ (List.mem_of_getElem? (i := 5) rfl))) (by decide) (backOf (W := 0) (rm1 l Z aw hw [] u0 u0 u1 h0 n0 Z0 Sx0 Sx1) hZ (hw _ (List.mem_of_getElem? (i := 7) rfl)) (hw _ (List.mem_of_getElem? (i := 1) rfl)) (by decide) (by decide)) q4a q4c (g := (mkF m 44 #[.val (.int p0), .val (.int (0 : Int32)), .val (.ref u0), .unset, .unset, .unset, .unset] [(.ref u0)])) rfl (by rw [hml]; rfl) (Steps.refl _) (argsL := []) (rest := []) (lenOf pd_rm0_0 rfl) rfl (by show 2 * 0 + _ ≤ _; exact Nat.le_of_eq rfl) (hb hby at_44) (fun _ _ => ⟨rfl, e3, (by decide : 0 + 0 ≤ _), (by decide : 0 + 0 ≤ _)⟩)
    dsimp only [Pt.U, Pt.locs, Pt.cells, Pt.slots] at X4 l4 y4 z4 st4 hQ4
    subst l4 y4 z4
    obtain ⟨rfl, N4q, e4q⟩ := hQ4
    have N4 := Fr.app N0 N4q
    obtain ⟨cq5, kq5, q5a, q5b, q5c⟩ := isOf hZ e4q (Eu0)
    obtain ⟨_, _, ⟨T5, L5, k5, n5⟩, -, X5, ⟨Lc5, hQ5, l5, y5, z5⟩, st5⟩ := X4.virtualBack hx (y := (⟨"com/example/querent/querent/language/Arithmetic$Operator", "symbol", "()Ljava/lang/String;"⟩ : MethodName)) (z := (⟨"com/example/querent/querent/language/Arithmetic$Operator", "symbol", "()Ljava/lang/String;"⟩ : MethodName)) hown (mvT hZ (hw _ (List.mem_of_getElem? (i := 9) rfl))) (mvT hZ (hw _ (List.mem_of_getElem? (i := 10) rfl))) (notFace_of_selects (args := #[]) (mvT hZ (hw _ (List.mem_of_getElem? (i := 12) rfl)))) (mvT hZ (hw _ (List.mem_of_getElem? (i := 12) rfl))) (mvT hZ (hw _ (List.mem_of_getElem? (i := 11) rfl))) (by decide) (backOf (W := 0) (rm2 l Z aw hw [] u0 y0 h0 n0 Z0 Fs0) hZ (hw _ (List.mem_of_getElem? (i := 13) rfl)) (hw _ (List.mem_of_getElem? (i := 1) rfl)) (by decide) (by decide)) q5a q5c (g := (mkF m 49 #[.val (.int p0), .val (.int (0 : Int32)), .val (.ref u0), .val (.int (own_add u0 u0 u1)), .unset, .unset, .unset] [(.ref u0)])) rfl (by rw [hml]; rfl) (Steps.refl _) (argsL := []) (rest := []) (lenOf pd_rm0_1 rfl) rfl (by show 2 * 0 + _ ≤ _; exact Nat.le_of_eq rfl) (hb hby at_49) (fun _ _ => ⟨rfl, e4q, (by decide : 0 + 0 ≤ _), (by decide : 0 + 0 ≤ _)⟩)
    dsimp only [Pt.U, Pt.locs, Pt.cells, Pt.slots] at X5 l5 y5 z5 st5 hQ5
    subst l5 y5 z5
    obtain ⟨rfl, N5q, e5q⟩ := hQ5
    have N5 := Fr.app N4 N5q
    have Nl6 := (show Fr s.heap.size _ from by rw [hh, ← hn0]; exact N5)
    obtain ⟨sa6, T6, h6, k16, sb6, sk6, X6, e6, E6, hS6, hk6, hZ, hown, Es6, Fc6, Fv6, Vs6, -, -, IB6, st6⟩ := ldcSV X5 hx hZ hown (hw _ (List.mem_of_getElem? (i := 16) rfl)) own_strW e5q hS0 (Nat.zero_le _) Nl6 hkp0 hIB (by decide) hch1 hcw (vs := [(.int (43 : Int32))]) (z := (1 : Int32)) (by decide) (by decide) rfl (g := (mkF m 56 #[.val (.int p0), .val (.int (0 : Int32)), .val (.ref u0), .val (.int (own_add u0 u0 u1)), .val (.ref y0), .unset, .unset] [(.ref y0)])) rfl (hb hby at_56) (n := 4) (by decide +kernel) (by decide) (by decide) (by decide)
    have Ee_8 : Exa Z h6 y0 "java/lang/String" := (Ey0.ext E6)
    have Ss_9 : Sta Z h6 "java/lang/String" "COMPACT_STRINGS" "Z" (.int cz) := (Sc.ext E6)
    have Ff_10 : Fld Z h6 y0 "java/lang/String" "coder" "B" (.int (0 : Int32)) := (Fc0.ext E6)
    have Ff_11 : Fld Z h6 y0 "java/lang/String" "value" "[B" (.ref z0) := (Fv0.ext E6)
    have Va_12 : Arv Z h6 z0 kz0 .byte (1 : Int32) [(.int (43 : Int32))] (.int (0 : Int32)) := (Vz0.ext E6)
    have Zz_13 : n0 ≤ h6.size := (Nat.le_trans Z0 E6.1)
    obtain ⟨cq7, kq7, q7a, q7b, q7c⟩ := isOf hZ e6 (Ee_8)
    obtain ⟨_, _, ⟨T7, L7, k7, n7⟩, -, X7, ⟨Lc7, hQ7, l7, y7, z7⟩, st7⟩ := X6.virtualBack hx (y := (⟨"java/lang/String", "equals", "(Ljava/lang/Object;)Z"⟩ : MethodName)) (z := (⟨"java/lang/String", "equals", "(Ljava/lang/Object;)Z"⟩ : MethodName)) hown (mvT hZ (hw _ (List.mem_of_getElem? (i := 24) rfl))) (mvT hZ (hw _ (List.mem_of_getElem? (i := 25) rfl))) (notFace_of_selects (args := #[]) (mvT hZ (hw _ (List.mem_of_getElem? (i := 27) rfl)))) (mvT hZ (hw _ (List.mem_of_getElem? (i := 27) rfl))) (mvT hZ (hw _ (List.mem_of_getElem? (i := 26) rfl))) (by decide) (backOf (W := 0) (rm3 l Z aw hw [] y0 sa6 z0 sb6 kz0 sk6 (43 : Int32) (43 : Int32) cz h6 n0 Zz_13 Ee_8 Es6 Ss_9 hcz Ff_10 Ff_11 Va_12 Fc6 Fv6 Vs6) hZ (hw _ (List.mem_of_getElem? (i := 28) rfl)) (hw _ (List.mem_of_getElem? (i := 17) rfl)) (by decide) (by decide)) q7a q7c (g := (mkF m 58 #[.val (.int p0), .val (.int (0 : Int32)), .val (.ref u0), .val (.int (own_add u0 u0 u1)), .val (.ref y0), .unset, .unset] [(.ref sa6), (.ref y0)])) rfl (by rw [hml]; rfl) (Steps.refl _) (argsL := [(.ref sa6)]) (rest := []) (lenOf pd_rm0_2 rfl) rfl (by show 2 * 0 + _ ≤ _; exact Nat.le_of_eq rfl) (hb hby at_58) (fun _ _ => ⟨rfl, e6, (by decide : 2 + 0 ≤ _), (by decide : 8 + 0 ≤ _)⟩)
    dsimp only [Pt.U, Pt.locs, Pt.cells, Pt.slots] at X7 l7 y7 z7 st7 hQ7
    subst l7 y7 z7
    obtain ⟨rfl, N7q, e7q⟩ := hQ7
    have N7 := Fr.app N5 N7q
    obtain ⟨fs, hr, hrun, hended, ew1, ew2, ew3, ew4⟩ := X7.leaveW hS6 (by rw [e7q]; exact hk6) (v := some (.int (1 : Int32))) (fun h => by rw [Bd.returns] at h; cases h)
    refine ⟨_, _, pre2 _ ?_, hrun, hended, _, _, rfl, ?_, ew1, ew2, ew3, ew4.mono (by decide) (by decide)⟩
    · show Steps p.tables e below (s₁.setTop (mkF m 4 #[.val (.int p0), .val (.int (0 : Int32)), .unset, .unset, .unset, .unset, .unset] [])) _
      refine XS.iloadN X0.here hx rfl (hb hby at_4) rfl ?_
      show Steps p.tables e below (s₁.setTop (mkF m 5 #[.val (.int p0), .val (.int (0 : Int32)), .unset, .unset, .unset, .unset, .unset] [(.int (0 : Int32))])) _
      refine XS.ifNo X0.here hx rfl (hb hby at_5) rfl ((if0 _ _).trans (teq (rfl : (0 : Int32) = (0 : Int32))).2) ?_
      show Steps p.tables e below (s₁.setTop (mkF m 8 #[.val (.int p0), .val (.int (0 : Int32)), .unset, .unset, .unset, .unset, .unset] [])) _
      refine st3 _ ?_
      show Steps p.tables e below (T3.setTop (mkF m 11 #[.val (.int p0), .val (.int (0 : Int32)), .unset, .unset, .unset, .unset, .unset] [(.ref u0)])) _
      refine XS.astoreN X3.here hx rfl (hb hby at_11) rfl rfl (l' := #[.val (.int p0), .val (.int (0 : Int32)), .val (.ref u0), .unset, .unset, .unset, .unset]) rfl ?_
      show Steps p.tables e below (T3.setTop (mkF m 12 #[.val (.int p0), .val (.int (0 : Int32)), .val (.ref u0), .unset, .unset, .unset, .unset] [])) _
      refine XS.goto X3.here hx rfl (pc0 := 12) (pc' := 43) rfl (hb hby at_12) (by decide) (by decide) ?_
      show Steps p.tables e below (T3.setTop (mkF m 43 #[.val (.int p0), .val (.int (0 : Int32)), .val (.ref u0), .unset, .unset, .unset, .unset] [])) _
      refine XS.aloadN X3.here hx rfl (hb hby at_43) rfl rfl ?_
      show Steps p.tables e below (T3.setTop (mkF m 44 #[.val (.int p0), .val (.int (0 : Int32)), .val (.ref u0), .unset, .unset, .unset, .unset] [(.ref u0)])) _
      refine st4.trans ?_
      show Steps p.tables e below (T4.setTop (mkF m 47 #[.val (.int p0), .val (.int (0 : Int32)), .val (.ref u0), .unset, .unset, .unset, .unset] [(.int (own_add u0 u0 u1))])) _
      refine XS.istoreN X4.here hx rfl (hb hby at_47) rfl (l' := #[.val (.int p0), .val (.int (0 : Int32)), .val (.ref u0), .val (.int (own_add u0 u0 u1)), .unset, .unset, .unset]) rfl ?_
      show Steps p.tables e below (T4.setTop (mkF m 48 #[.val (.int p0), .val (.int (0 : Int32)), .val (.ref u0), .val (.int (own_add u0 u0 u1)), .unset, .unset, .unset] [])) _
      refine XS.aloadN X4.here hx rfl (hb hby at_48) rfl rfl ?_
      show Steps p.tables e below (T4.setTop (mkF m 49 #[.val (.int p0), .val (.int (0 : Int32)), .val (.ref u0), .val (.int (own_add u0 u0 u1)), .unset, .unset, .unset] [(.ref u0)])) _
      refine st5.trans ?_
      show Steps p.tables e below (T5.setTop (mkF m 52 #[.val (.int p0), .val (.int (0 : Int32)), .val (.ref u0), .val (.int (own_add u0 u0 u1)), .unset, .unset, .unset] [(.ref y0)])) _
      refine XS.astore X5.here hx rfl (hb hby at_52) rfl rfl (l' := #[.val (.int p0), .val (.int (0 : Int32)), .val (.ref u0), .val (.int (own_add u0 u0 u1)), .val (.ref y0), .unset, .unset]) rfl ?_
      show Steps p.tables e below (T5.setTop (mkF m 54 #[.val (.int p0), .val (.int (0 : Int32)), .val (.ref u0), .val (.int (own_add u0 u0 u1)), .val (.ref y0), .unset, .unset] [])) _
      refine XS.aload X5.here hx rfl (hb hby at_54) rfl rfl ?_
      show Steps p.tables e below (T5.setTop (mkF m 56 #[.val (.int p0), .val (.int (0 : Int32)), .val (.ref u0), .val (.int (own_add u0 u0 u1)), .val (.ref y0), .unset, .unset] [(.ref y0)])) _
      refine st6 _ ?_
      show Steps p.tables e below (T6.setTop (mkF m 58 #[.val (.int p0), .val (.int (0 : Int32)), .val (.ref u0), .val (.int (own_add u0 u0 u1)), .val (.ref y0), .unset, .unset] [(.ref sa6), (.ref y0)])) _
      refine st7.trans ?_
      show Steps p.tables e below (T7.setTop (mkF m 61 #[.val (.int p0), .val (.int (0 : Int32)), .val (.ref u0), .val (.int (own_add u0 u0 u1)), .val (.ref y0), .unset, .unset] [(.int (own_eqc (43 : Int32) (43 : Int32)))])) _
      refine XS.ifYes X7.here hx rfl (pc0 := 61) (pc' := 74) rfl (hb hby at_61) rfl ((if0 _ _).trans (feq (by decide : ¬ ((own_eqc (43 : Int32) (43 : Int32)) = (0 : Int32)))).2) (by decide) (by decide) ?_
      show Steps p.tables e below (T7.setTop (mkF m 74 #[.val (.int p0), .val (.int (0 : Int32)), .val (.ref u0), .val (.int (own_add u0 u0 u1)), .val (.ref y0), .unset, .unset] [])) _
      refine XS.iconst X7.here hx rfl (hb hby at_74) ?_
      show Steps p.tables e below (T7.setTop (mkF m 75 #[.val (.int p0), .val (.int (0 : Int32)), .val (.ref u0), .val (.int (own_add u0 u0 u1)), .val (.ref y0), .unset, .unset] [(.int (1 : Int32))])) _
      refine XS.goto X7.here hx rfl (pc0 := 75) (pc' := 79) rfl (hb hby at_75) (by decide) (by decide) ?_
      show Steps p.tables e below (T7.setTop (mkF m 79 #[.val (.int p0), .val (.int (0 : Int32)), .val (.ref u0), .val (.int (own_add u0 u0 u1)), .val (.ref y0), .unset, .unset] [(.int (1 : Int32))])) _
      refine XS.istore X7.here hx rfl (hb hby at_79) rfl (l' := #[.val (.int p0), .val (.int (0 : Int32)), .val (.ref u0), .val (.int (own_add u0 u0 u1)), .val (.ref y0), .val (.int (1 : Int32)), .unset]) rfl ?_
      show Steps p.tables e below (T7.setTop (mkF m 81 #[.val (.int p0), .val (.int (0 : Int32)), .val (.ref u0), .val (.int (own_add u0 u0 u1)), .val (.ref y0), .val (.int (1 : Int32)), .unset] [])) _
      refine XS.iloadN X7.here hx rfl (hb hby at_81) rfl ?_
      show Steps p.tables e below (T7.setTop (mkF m 82 #[.val (.int p0), .val (.int (0 : Int32)), .val (.ref u0), .val (.int (own_add u0 u0 u1)), .val (.ref y0), .val (.int (1 : Int32)), .unset] [(.int (0 : Int32))])) _
      refine XS.iconst X7.here hx rfl (hb hby at_82) ?_
      show Steps p.tables e below (T7.setTop (mkF m 83 #[.val (.int p0), .val (.int (0 : Int32)), .val (.ref u0), .val (.int (own_add u0 u0 u1)), .val (.ref y0), .val (.int (1 : Int32)), .unset] [(.int (2 : Int32)), (.int (0 : Int32))])) _
      refine XS.icmpNo X7.here hx rfl (hb hby at_83) rfl (tlt ((by decide) : (0 : Int32) < (2 : Int32))).2.1 ?_
      show Steps p.tables e below (T7.setTop (mkF m 86 #[.val (.int p0), .val (.int (0 : Int32)), .val (.ref u0), .val (.int (own_add u0 u0 u1)), .val (.ref y0), .val (.int (1 : Int32)), .unset] [])) _
      refine XS.iconst X7.here hx rfl (hb hby at_86) ?_
      show Steps p.tables e below (T7.setTop (mkF m 87 #[.val (.int p0), .val (.int (0 : Int32)), .val (.ref u0), .val (.int (own_add u0 u0 u1)), .val (.ref y0), .val (.int (1 : Int32)), .unset] [(.int (1 : Int32))])) _
      refine XS.goto X7.here hx rfl (pc0 := 87) (pc' := 91) rfl (hb hby at_87) (by decide) (by decide) ?_
      show Steps p.tables e below (T7.setTop (mkF m 91 #[.val (.int p0), .val (.int (0 : Int32)), .val (.ref u0), .val (.int (own_add u0 u0 u1)), .val (.ref y0), .val (.int (1 : Int32)), .unset] [(.int (1 : Int32))])) _
      refine XS.istore X7.here hx rfl (hb hby at_91) rfl (l' := #[.val (.int p0), .val (.int (0 : Int32)), .val (.ref u0), .val (.int (own_add u0 u0 u1)), .val (.ref y0), .val (.int (1 : Int32)), .val (.int (1 : Int32))]) rfl ?_
      show Steps p.tables e below (T7.setTop (mkF m 93 #[.val (.int p0), .val (.int (0 : Int32)), .val (.ref u0), .val (.int (own_add u0 u0 u1)), .val (.ref y0), .val (.int (1 : Int32)), .val (.int (1 : Int32))] [])) _
      refine XS.iloadN X7.here hx rfl (hb hby at_93) rfl ?_
      show Steps p.tables e below (T7.setTop (mkF m 94 #[.val (.int p0), .val (.int (0 : Int32)), .val (.ref u0), .val (.int (own_add u0 u0 u1)), .val (.ref y0), .val (.int (1 : Int32)), .val (.int (1 : Int32))] [(.int (own_add u0 u0 u1))])) _
      refine XS.iload X7.here hx rfl (hb hby at_94) rfl ?_
      show Steps p.tables e below (T7.setTop (mkF m 96 #[.val (.int p0), .val (.int (0 : Int32)), .val (.ref u0), .val (.int (own_add u0 u0 u1)), .val (.ref y0), .val (.int (1 : Int32)), .val (.int (1 : Int32))] [(.int (1 : Int32)), (.int (own_add u0 u0 u1))])) _
      refine XS.icmpNo X7.here hx rfl (hb hby at_96) rfl (teq (by rw [own_add, if_pos rfl] : (own_add u0 u0 u1) = (1 : Int32))).2 ?_
      show Steps p.tables e below (T7.setTop (mkF m 99 #[.val (.int p0), .val (.int (0 : Int32)), .val (.ref u0), .val (.int (own_add u0 u0 u1)), .val (.ref y0), .val (.int (1 : Int32)), .val (.int (1 : Int32))] [])) _
      refine XS.iloadN X7.here hx rfl (hb hby at_99) rfl ?_
      show Steps p.tables e below (T7.setTop (mkF m 100 #[.val (.int p0), .val (.int (0 : Int32)), .val (.ref u0), .val (.int (own_add u0 u0 u1)), .val (.ref y0), .val (.int (1 : Int32)), .val (.int (1 : Int32))] [(.int (own_add u0 u0 u1))])) _
      refine XS.iload X7.here hx rfl (hb hby at_100) rfl ?_
      show Steps p.tables e below (T7.setTop (mkF m 102 #[.val (.int p0), .val (.int (0 : Int32)), .val (.ref u0), .val (.int (own_add u0 u0 u1)), .val (.ref y0), .val (.int (1 : Int32)), .val (.int (1 : Int32))] [(.int (1 : Int32)), (.int (own_add u0 u0 u1))])) _
      refine XS.icmpNo X7.here hx rfl (hb hby at_102) rfl (teq (by rw [own_add, if_pos rfl] : (own_add u0 u0 u1) = (1 : Int32))).2 ?_
      show Steps p.tables e below (T7.setTop (mkF m 105 #[.val (.int p0), .val (.int (0 : Int32)), .val (.ref u0), .val (.int (own_add u0 u0 u1)), .val (.ref y0), .val (.int (1 : Int32)), .val (.int (1 : Int32))] [])) _
      refine XS.iconst X7.here hx rfl (hb hby at_105) ?_
      show Steps p.tables e below (T7.setTop (mkF m 106 #[.val (.int p0), .val (.int (0 : Int32)), .val (.ref u0), .val (.int (own_add u0 u0 u1)), .val (.ref y0), .val (.int (1 : Int32)), .val (.int (1 : Int32))] [(.int (1 : Int32))])) _
      refine XS.goto X7.here hx rfl (pc0 := 106) (pc' := 110) rfl (hb hby at_106) (by decide) (by decide) ?_
      show Steps p.tables e below (T7.setTop (mkF m 110 #[.val (.int p0), .val (.int (0 : Int32)), .val (.ref u0), .val (.int (own_add u0 u0 u1)), .val (.ref y0), .val (.int (1 : Int32)), .val (.int (1 : Int32))] [(.int (1 : Int32))])) _
      exact retN X7 hx (t := .boolean) Bd.returns (by simp) (hb hby at_110) hr
    · show rm0Q Z p0 h0 n0 _ T7.heap _
      rw [e7q]
      exact ⟨rfl, N7⟩
  · obtain ⟨T14, X14, e14, st14⟩ := getS2 X0 hx hZ hown (host := "") (Or.inl (hw _ (List.mem_of_getElem? (i := 45) rfl))) Via.refl e0 Sx1 (g := (mkF m 20 #[.val (.int p0), .val (.int (1 : Int32)), .unset, .unset, .unset, .unset, .unset] [])) rfl (hb hby at_20)
    obtain ⟨cq15, kq15, q15a, q15b, q15c⟩ := isOf hZ e14 (Eu1)
    obtain ⟨_, _, ⟨T15, L15, k15, n15⟩, -, X15, ⟨Lc15, hQ15, l15, y15, z15⟩, st15⟩ := X14.virtualBack hx (y := (⟨"com/example/querent/querent/language/Arithmetic$Operator", "isAdditive", "()Z"⟩ : MethodName)) (z := (⟨"com/example/querent/querent/language/Arithmetic$Operator", "isAdditive", "()Z"⟩ : MethodName)) hown (mvT hZ (hw _ (List.mem_of_getElem? (i := 3) rfl))) (mvT hZ (hw _ (List.mem_of_getElem? (i := 4) rfl))) (notFace_of_selects (args := #[]) (mvT hZ (hw _ (List.mem_of_getElem? (i := 6) rfl)))) (mvT hZ (hw _ (List.mem_of_getElem? (i := 6) rfl))) (mvT hZ (hw _ (List.mem_of_getElem? (i := 5) rfl))) (by decide) (backOf (W := 0) (rm1 l Z aw hw [] u1 u0 u1 h0 n0 Z0 Sx0 Sx1) hZ (hw _ (List.mem_of_getElem? (i := 7) rfl)) (hw _ (List.mem_of_getElem? (i := 1) rfl)) (by decide) (by decide)) q15a q15c (g := (mkF m 44 #[.val (.int p0), .val (.int (1 : Int32)), .val (.ref u1), .unset, .unset, .unset, .unset] [(.ref u1)])) rfl (by rw [hml]; rfl) (Steps.refl _) (argsL := []) (rest := []) (lenOf pd_rm0_0 rfl) rfl (by show 2 * 0 + _ ≤ _; exact Nat.le_of_eq rfl) (hb hby at_44) (fun _ _ => ⟨rfl, e14, (by decide : 0 + 0 ≤ _), (by decide : 0 + 0 ≤ _)⟩)
    dsimp only [Pt.U, Pt.locs, Pt.cells, Pt.slots] at X15 l15 y15 z15 st15 hQ15
    subst l15 y15 z15
    obtain ⟨rfl, N15q, e15q⟩ := hQ15
    have N15 := Fr.app N0 N15q
    obtain ⟨cq16, kq16, q16a, q16b, q16c⟩ := isOf hZ e15q (Eu1)
    obtain ⟨_, _, ⟨T16, L16, k16, n16⟩, -, X16, ⟨Lc16, hQ16, l16, y16, z16⟩, st16⟩ := X15.virtualBack hx (y := (⟨"com/example/querent/querent/language/Arithmetic$Operator", "symbol", "()Ljava/lang/String;"⟩ : MethodName)) (z := (⟨"com/example/querent/querent/language/Arithmetic$Operator", "symbol", "()Ljava/lang/String;"⟩ : MethodName)) hown (mvT hZ (hw _ (List.mem_of_getElem? (i := 9) rfl))) (mvT hZ (hw _ (List.mem_of_getElem? (i := 10) rfl))) (notFace_of_selects (args := #[]) (mvT hZ (hw _ (List.mem_of_getElem? (i := 12) rfl)))) (mvT hZ (hw _ (List.mem_of_getElem? (i := 12) rfl))) (mvT hZ (hw _ (List.mem_of_getElem? (i := 11) rfl))) (by decide) (backOf (W := 0) (rm2 l Z aw hw [] u1 y1 h0 n0 Z0 Fs1) hZ (hw _ (List.mem_of_getElem? (i := 13) rfl)) (hw _ (List.mem_of_getElem? (i := 1) rfl)) (by decide) (by decide)) q16a q16c (g := (mkF m 49 #[.val (.int p0), .val (.int (1 : Int32)), .val (.ref u1), .val (.int (own_add u1 u0 u1)), .unset, .unset, .unset] [(.ref u1)])) rfl (by rw [hml]; rfl) (Steps.refl _) (argsL := []) (rest := []) (lenOf pd_rm0_1 rfl) rfl (by show 2 * 0 + _ ≤ _; exact Nat.le_of_eq rfl) (hb hby at_49) (fun _ _ => ⟨rfl, e15q, (by decide : 0 + 0 ≤ _), (by decide : 0 + 0 ≤ _)⟩)
    dsimp only [Pt.U, Pt.locs, Pt.cells, Pt.slots] at X16 l16 y16 z16 st16 hQ16
    subst l16 y16 z16
    obtain ⟨rfl, N16q, e16q⟩ := hQ16
    have N16 := Fr.app N15 N16q
    have Nl17 := (show Fr s.heap.size _ from by rw [hh, ← hn0]; exact N16)
    obtain ⟨sa17, T17, h17, k117, sb17, sk17, X17, e17, E17, hS17, hk17, hZ, hown, Es17, Fc17, Fv17, Vs17, -, -, IB17, st17⟩ := ldcSV X16 hx hZ hown (hw _ (List.mem_of_getElem? (i := 16) rfl)) own_strW e16q hS0 (Nat.zero_le _) Nl17 hkp0 hIB (by decide) hch1 hcw (vs := [(.int (43 : Int32))]) (z := (1 : Int32)) (by decide) (by decide) rfl (g := (mkF m 56 #[.val (.int p0), .val (.int (1 : Int32)), .val (.ref u1), .val (.int (own_add u1 u0 u1)), .val (.ref y1), .unset, .unset] [(.ref y1)])) rfl (hb hby at_56) (n := 4) (by decide +kernel) (by decide) (by decide) (by decide)
    have Ee_19 : Exa Z h17 y1 "java/lang/String" := (Ey1.ext E17)
    have Ss_20 : Sta Z h17 "java/lang/String" "COMPACT_STRINGS" "Z" (.int cz) := (Sc.ext E17)
    have Ff_21 : Fld Z h17 y1 "java/lang/String" "coder" "B" (.int (0 : Int32)) := (Fc1.ext E17)
    have Ff_22 : Fld Z h17 y1 "java/lang/String" "value" "[B" (.ref z1) := (Fv1.ext E17)
    have Va_23 : Arv Z h17 z1 kz1 .byte (1 : Int32) [(.int (45 : Int32))] (.int (0 : Int32)) := (Vz1.ext E17)
    have Zz_24 : n0 ≤ h17.size := (Nat.le_trans Z0 E17.1)
    obtain ⟨cq18, kq18, q18a, q18b, q18c⟩ := isOf hZ e17 (Ee_19)
    obtain ⟨_, _, ⟨T18, L18, k18, n18⟩, -, X18, ⟨Lc18, hQ18, l18, y18, z18⟩, st18⟩ := X17.virtualBack hx (y := (⟨"java/lang/String", "equals", "(Ljava/lang/Object;)Z"⟩ : MethodName)) (z := (⟨"java/lang/String", "equals", "(Ljava/lang/Object;)Z"⟩ : MethodName)) hown (mvT hZ (hw _ (List.mem_of_getElem? (i := 24) rfl))) (mvT hZ (hw _ (List.mem_of_getElem? (i := 25) rfl))) (notFace_of_selects (args := #[]) (mvT hZ (hw _ (List.mem_of_getElem? (i := 27) rfl)))) (mvT hZ (hw _ (List.mem_of_getElem? (i := 27) rfl))) (mvT hZ (hw _ (List.mem_of_getElem? (i := 26) rfl))) (by decide) (backOf (W := 0) (rm3 l Z aw hw [] y1 sa17 z1 sb17 kz1 sk17 (45 : Int32) (43 : Int32) cz h17 n0 Zz_24 Ee_19 Es17 Ss_20 hcz Ff_21 Ff_22 Va_23 Fc17 Fv17 Vs17) hZ (hw _ (List.mem_of_getElem? (i := 28) rfl)) (hw _ (List.mem_of_getElem? (i := 17) rfl)) (by decide) (by decide)) q18a q18c (g := (mkF m 58 #[.val (.int p0), .val (.int (1 : Int32)), .val (.ref u1), .val (.int (own_add u1 u0 u1)), .val (.ref y1), .unset, .unset] [(.ref sa17), (.ref y1)])) rfl (by rw [hml]; rfl) (Steps.refl _) (argsL := [(.ref sa17)]) (rest := []) (lenOf pd_rm0_2 rfl) rfl (by show 2 * 0 + _ ≤ _; exact Nat.le_of_eq rfl) (hb hby at_58) (fun _ _ => ⟨rfl, e17, (by decide : 2 + 0 ≤ _), (by decide : 8 + 0 ≤ _)⟩)
    dsimp only [Pt.U, Pt.locs, Pt.cells, Pt.slots] at X18 l18 y18 z18 st18 hQ18
    subst l18 y18 z18
    obtain ⟨rfl, N18q, e18q⟩ := hQ18
    have N18 := Fr.app N16 N18q
    have Nl25 := (show Fr s.heap.size _ from by rw [hh, ← hn0]; exact N18)
    obtain ⟨sa25, T25, h25, k125, sb25, sk25, X25, e25, E25, hS25, hk25, hZ, hown, Es25, Fc25, Fv25, Vs25, -, -, IB25, st25⟩ := ldcSV X18 hx hZ hown (hw _ (List.mem_of_getElem? (i := 42) rfl)) own_strW e18q hS17 hk17 Nl25 hkp0 IB17 (by decide) hch2 hcw (vs := [(.int (45 : Int32))]) (z := (1 : Int32)) (by decide) (by decide) rfl (g := (mkF m 66 #[.val (.int p0), .val (.int (1 : Int32)), .val (.ref u1), .val (.int (own_add u1 u0 u1)), .val (.ref y1), .unset, .unset] [(.ref y1)])) rfl (hb hby at_66) (n := 4) (by decide +kernel) (by decide) (by decide) (by decide)
    have Ee_27 : Exa Z h25 y1 "java/lang/String" := (Ee_19.ext E25)
    have Ss_28 : Sta Z h25 "java/lang/String" "COMPACT_STRINGS" "Z" (.int cz) := (Ss_20.ext E25)
    have Ff_29 : Fld Z h25 y1 "java/lang/String" "coder" "B" (.int (0 : Int32)) := (Ff_21.ext E25)
    have Ff_30 : Fld Z h25 y1 "java/lang/String" "value" "[B" (.ref z1) := (Ff_22.ext E25)
    have Va_31 : Arv Z h25 z1 kz1 .byte (1 : Int32) [(.int (45 : Int32))] (.int (0 : Int32)) := (Va_23.ext E25)
    have Zz_32 : n0 ≤ h25.size := (Nat.le_trans Zz_24 E25.1)
    obtain ⟨cq26, kq26, q26a, q26b, q26c⟩ := isOf hZ e25 (Ee_27)
    obtain ⟨_, _, ⟨T26, L26, k26, n26⟩, -, X26, ⟨Lc26, hQ26, l26, y26, z26⟩, st26⟩ := X25.virtualBack hx (y := (⟨"java/lang/String", "equals", "(Ljava/lang/Object;)Z"⟩ : MethodName)) (z := (⟨"java/lang/String", "equals", "(Ljava/lang/Object;)Z"⟩ : MethodName)) hown (mvT hZ (hw _ (List.mem_of_getElem? (i := 24) rfl))) (mvT hZ (hw _ (List.mem_of_getElem? (i := 25) rfl))) (notFace_of_selects (args := #[]) (mvT hZ (hw _ (List.mem_of_getElem? (i := 27) rfl)))) (mvT hZ (hw _ (List.mem_of_getElem? (i := 27) rfl))) (mvT hZ (hw _ (List.mem_of_getElem? (i := 26) rfl))) (by decide) (backOf (W := 0) (rm3 l Z aw hw [] y1 sa25 z1 sb25 kz1 sk25 (45 : Int32) (45 : Int32) cz h25 n0 Zz_32 Ee_27 Es25 Ss_28 hcz Ff_29 Ff_30 Va_31 Fc25 Fv25 Vs25) hZ (hw _ (List.mem_of_getElem? (i := 28) rfl)) (hw _ (List.mem_of_getElem? (i := 17) rfl)) (by decide) (by decide)) q26a q26c (g := (mkF m 68 #[.val (.int p0), .val (.int (1 : Int32)), .val (.ref u1), .val (.int (own_add u1 u0 u1)), .val (.ref y1), .unset, .unset] [(.ref sa25), (.ref y1)])) rfl (by rw [hml]; rfl) (Steps.refl _) (argsL := [(.ref sa25)]) (rest := []) (lenOf pd_rm0_2 rfl) rfl (by show 2 * 0 + _ ≤ _; exact Nat.le_of_eq rfl) (hb hby at_68) (fun _ _ => ⟨rfl, e25, (by decide : 4 + 0 ≤ _), (by decide : 16 + 0 ≤ _)⟩)
    dsimp only [Pt.U, Pt.locs, Pt.cells, Pt.slots] at X26 l26 y26 z26 st26 hQ26
    subst l26 y26 z26
    obtain ⟨rfl, N26q, e26q⟩ := hQ26
    have N26 := Fr.app N18 N26q
    obtain ⟨fs, hr, hrun, hended, ew1, ew2, ew3, ew4⟩ := X26.leaveW hS25 (by rw [e26q]; exact hk25) (v := some (.int (1 : Int32))) (fun h => by rw [Bd.returns] at h; cases h)
    refine ⟨_, _, pre2 _ ?_, hrun, hended, _, _, rfl, ?_, ew1, ew2, ew3, ew4.mono (by decide) (by decide)⟩
    · show Steps p.tables e below (s₁.setTop (mkF m 4 #[.val (.int p0), .val (.int (1 : Int32)), .unset, .unset, .unset, .unset, .unset] [])) _
      refine XS.iloadN X0.here hx rfl (hb hby at_4) rfl ?_
      show Steps p.tables e below (s₁.setTop (mkF m 5 #[.val (.int p0), .val (.int (1 : Int32)), .unset, .unset, .unset, .unset, .unset] [(.int (1 : Int32))])) _
      refine XS.ifYes X0.here hx rfl (pc0 := 5) (pc' := 15) rfl (hb hby at_5) rfl ((if0 _ _).trans (feq ((by decide) : ¬ ((1 : Int32) = (0 : Int32)))).2) (by decide) (by decide) ?_
      show Steps p.tables e below (s₁.setTop (mkF m 15 #[.val (.int p0), .val (.int (1 : Int32)), .unset, .unset, .unset, .unset, .unset] [])) _
      refine XS.iloadN X0.here hx rfl (hb hby at_15) rfl ?_
      show Steps p.tables e below (s₁.setTop (mkF m 16 #[.val (.int p0), .val (.int (1 : Int32)), .unset, .unset, .unset, .unset, .unset] [(.int (1 : Int32))])) _
      refine XS.iconst X0.here hx rfl (hb hby at_16) ?_
      show Steps p.tables e below (s₁.setTop (mkF m 17 #[.val (.int p0), .val (.int (1 : Int32)), .unset, .unset, .unset, .unset, .unset] [(.int (1 : Int32)), (.int (1 : Int32))])) _
      refine XS.icmpNo X0.here hx rfl (hb hby at_17) rfl (teq (rfl : (1 : Int32) = (1 : Int32))).2 ?_
      show Steps p.tables e below (s₁.setTop (mkF m 20 #[.val (.int p0), .val (.int (1 : Int32)), .unset, .unset, .unset, .unset, .unset] [])) _
      refine st14 _ ?_
      show Steps p.tables e below (T14.setTop (mkF m 23 #[.val (.int p0), .val (.int (1 : Int32)), .unset, .unset, .unset, .unset, .unset] [(.ref u1)])) _
      refine XS.astoreN X14.here hx rfl (hb hby at_23) rfl rfl (l' := #[.val (.int p0), .val (.int (1 : Int32)), .val (.ref u1), .unset, .unset, .unset, .unset]) rfl ?_
      show Steps p.tables e below (T14.setTop (mkF m 24 #[.val (.int p0), .val (.int (1 : Int32)), .val (.ref u1), .unset, .unset, .unset, .unset] [])) _
      refine XS.goto X14.here hx rfl (pc0 := 24) (pc' := 43) rfl (hb hby at_24) (by decide) (by decide) ?_
      show Steps p.tables e below (T14.setTop (mkF m 43 #[.val (.int p0), .val (.int (1 : Int32)), .val (.ref u1), .unset, .unset, .unset, .unset] [])) _
      refine XS.aloadN X14.here hx rfl (hb hby at_43) rfl rfl ?_
      show Steps p.tables e below (T14.setTop (mkF m 44 #[.val (.int p0), .val (.int (1 : Int32)), .val (.ref u1), .unset, .unset, .unset, .unset] [(.ref u1)])) _
      refine st15.trans ?_
      show Steps p.tables e below (T15.setTop (mkF m 47 #[.val (.int p0), .val (.int (1 : Int32)), .val (.ref u1), .unset, .unset, .unset, .unset] [(.int (own_add u1 u0 u1))])) _
      refine XS.istoreN X15.here hx rfl (hb hby at_47) rfl (l' := #[.val (.int p0), .val (.int (1 : Int32)), .val (.ref u1), .val (.int (own_add u1 u0 u1)), .unset, .unset, .unset]) rfl ?_
      show Steps p.tables e below (T15.setTop (mkF m 48 #[.val (.int p0), .val (.int (1 : Int32)), .val (.ref u1), .val (.int (own_add u1 u0 u1)), .unset, .unset, .unset] [])) _
      refine XS.aloadN X15.here hx rfl (hb hby at_48) rfl rfl ?_
      show Steps p.tables e below (T15.setTop (mkF m 49 #[.val (.int p0), .val (.int (1 : Int32)), .val (.ref u1), .val (.int (own_add u1 u0 u1)), .unset, .unset, .unset] [(.ref u1)])) _
      refine st16.trans ?_
      show Steps p.tables e below (T16.setTop (mkF m 52 #[.val (.int p0), .val (.int (1 : Int32)), .val (.ref u1), .val (.int (own_add u1 u0 u1)), .unset, .unset, .unset] [(.ref y1)])) _
      refine XS.astore X16.here hx rfl (hb hby at_52) rfl rfl (l' := #[.val (.int p0), .val (.int (1 : Int32)), .val (.ref u1), .val (.int (own_add u1 u0 u1)), .val (.ref y1), .unset, .unset]) rfl ?_
      show Steps p.tables e below (T16.setTop (mkF m 54 #[.val (.int p0), .val (.int (1 : Int32)), .val (.ref u1), .val (.int (own_add u1 u0 u1)), .val (.ref y1), .unset, .unset] [])) _
      refine XS.aload X16.here hx rfl (hb hby at_54) rfl rfl ?_
      show Steps p.tables e below (T16.setTop (mkF m 56 #[.val (.int p0), .val (.int (1 : Int32)), .val (.ref u1), .val (.int (own_add u1 u0 u1)), .val (.ref y1), .unset, .unset] [(.ref y1)])) _
      refine st17 _ ?_
      show Steps p.tables e below (T17.setTop (mkF m 58 #[.val (.int p0), .val (.int (1 : Int32)), .val (.ref u1), .val (.int (own_add u1 u0 u1)), .val (.ref y1), .unset, .unset] [(.ref sa17), (.ref y1)])) _
      refine st18.trans ?_
      show Steps p.tables e below (T18.setTop (mkF m 61 #[.val (.int p0), .val (.int (1 : Int32)), .val (.ref u1), .val (.int (own_add u1 u0 u1)), .val (.ref y1), .unset, .unset] [(.int (own_eqc (45 : Int32) (43 : Int32)))])) _
      refine XS.ifNo X18.here hx rfl (hb hby at_61) rfl ((if0 _ _).trans (teq (by decide : (own_eqc (45 : Int32) (43 : Int32)) = (0 : Int32))).2) ?_
      show Steps p.tables e below (T18.setTop (mkF m 64 #[.val (.int p0), .val (.int (1 : Int32)), .val (.ref u1), .val (.int (own_add u1 u0 u1)), .val (.ref y1), .unset, .unset] [])) _
      refine XS.aload X18.here hx rfl (hb hby at_64) rfl rfl ?_
      show Steps p.tables e below (T18.setTop (mkF m 66 #[.val (.int p0), .val (.int (1 : Int32)), .val (.ref u1), .val (.int (own_add u1 u0 u1)), .val (.ref y1), .unset, .unset] [(.ref y1)])) _
      refine st25 _ ?_
      show Steps p.tables e below (T25.setTop (mkF m 68 #[.val (.int p0), .val (.int (1 : Int32)), .val (.ref u1), .val (.int (own_add u1 u0 u1)), .val (.ref y1), .unset, .unset] [(.ref sa25), (.ref y1)])) _
      refine st26.trans ?_
      show Steps p.tables e below (T26.setTop (mkF m 71 #[.val (.int p0), .val (.int (1 : Int32)), .val (.ref u1), .val (.int (own_add u1 u0 u1)), .val (.ref y1), .unset, .unset] [(.int (own_eqc (45 : Int32) (45 : Int32)))])) _
      refine XS.ifNo X26.here hx rfl (hb hby at_71) rfl ((if0 _ _).trans (feq (by decide : ¬ ((own_eqc (45 : Int32) (45 : Int32)) = (0 : Int32)))).1) ?_
      show Steps p.tables e below (T26.setTop (mkF m 74 #[.val (.int p0), .val (.int (1 : Int32)), .val (.ref u1), .val (.int (own_add u1 u0 u1)), .val (.ref y1), .unset, .unset] [])) _
      refine XS.iconst X26.here hx rfl (hb hby at_74) ?_
      show Steps p.tables e below (T26.setTop (mkF m 75 #[.val (.int p0), .val (.int (1 : Int32)), .val (.ref u1), .val (.int (own_add u1 u0 u1)), .val (.ref y1), .unset, .unset] [(.int (1 : Int32))])) _
      refine XS.goto X26.here hx rfl (pc0 := 75) (pc' := 79) rfl (hb hby at_75) (by decide) (by decide) ?_
      show Steps p.tables e below (T26.setTop (mkF m 79 #[.val (.int p0), .val (.int (1 : Int32)), .val (.ref u1), .val (.int (own_add u1 u0 u1)), .val (.ref y1), .unset, .unset] [(.int (1 : Int32))])) _
      refine XS.istore X26.here hx rfl (hb hby at_79) rfl (l' := #[.val (.int p0), .val (.int (1 : Int32)), .val (.ref u1), .val (.int (own_add u1 u0 u1)), .val (.ref y1), .val (.int (1 : Int32)), .unset]) rfl ?_
      show Steps p.tables e below (T26.setTop (mkF m 81 #[.val (.int p0), .val (.int (1 : Int32)), .val (.ref u1), .val (.int (own_add u1 u0 u1)), .val (.ref y1), .val (.int (1 : Int32)), .unset] [])) _
      refine XS.iloadN X26.here hx rfl (hb hby at_81) rfl ?_
      show Steps p.tables e below (T26.setTop (mkF m 82 #[.val (.int p0), .val (.int (1 : Int32)), .val (.ref u1), .val (.int (own_add u1 u0 u1)), .val (.ref y1), .val (.int (1 : Int32)), .unset] [(.int (1 : Int32))])) _
      refine XS.iconst X26.here hx rfl (hb hby at_82) ?_
      show Steps p.tables e below (T26.setTop (mkF m 83 #[.val (.int p0), .val (.int (1 : Int32)), .val (.ref u1), .val (.int (own_add u1 u0 u1)), .val (.ref y1), .val (.int (1 : Int32)), .unset] [(.int (2 : Int32)), (.int (1 : Int32))])) _
      refine XS.icmpNo X26.here hx rfl (hb hby at_83) rfl (tlt ((by decide) : (1 : Int32) < (2 : Int32))).2.1 ?_
      show Steps p.tables e below (T26.setTop (mkF m 86 #[.val (.int p0), .val (.int (1 : Int32)), .val (.ref u1), .val (.int (own_add u1 u0 u1)), .val (.ref y1), .val (.int (1 : Int32)), .unset] [])) _
      refine XS.iconst X26.here hx rfl (hb hby at_86) ?_
      show Steps p.tables e below (T26.setTop (mkF m 87 #[.val (.int p0), .val (.int (1 : Int32)), .val (.ref u1), .val (.int (own_add u1 u0 u1)), .val (.ref y1), .val (.int (1 : Int32)), .unset] [(.int (1 : Int32))])) _
      refine XS.goto X26.here hx rfl (pc0 := 87) (pc' := 91) rfl (hb hby at_87) (by decide) (by decide) ?_
      show Steps p.tables e below (T26.setTop (mkF m 91 #[.val (.int p0), .val (.int (1 : Int32)), .val (.ref u1), .val (.int (own_add u1 u0 u1)), .val (.ref y1), .val (.int (1 : Int32)), .unset] [(.int (1 : Int32))])) _
      refine XS.istore X26.here hx rfl (hb hby at_91) rfl (l' := #[.val (.int p0), .val (.int (1 : Int32)), .val (.ref u1), .val (.int (own_add u1 u0 u1)), .val (.ref y1), .val (.int (1 : Int32)), .val (.int (1 : Int32))]) rfl ?_
      show Steps p.tables e below (T26.setTop (mkF m 93 #[.val (.int p0), .val (.int (1 : Int32)), .val (.ref u1), .val (.int (own_add u1 u0 u1)), .val (.ref y1), .val (.int (1 : Int32)), .val (.int (1 : Int32))] [])) _
      refine XS.iloadN X26.here hx rfl (hb hby at_93) rfl ?_
      show Steps p.tables e below (T26.setTop (mkF m 94 #[.val (.int p0), .val (.int (1 : Int32)), .val (.ref u1), .val (.int (own_add u1 u0 u1)), .val (.ref y1), .val (.int (1 : Int32)), .val (.int (1 : Int32))] [(.int (own_add u1 u0 u1))])) _
      refine XS.iload X26.here hx rfl (hb hby at_94) rfl ?_
      show Steps p.tables e below (T26.setTop (mkF m 96 #[.val (.int p0), .val (.int (1 : Int32)), .val (.ref u1), .val (.int (own_add u1 u0 u1)), .val (.ref y1), .val (.int (1 : Int32)), .val (.int (1 : Int32))] [(.int (1 : Int32)), (.int (own_add u1 u0 u1))])) _
      refine XS.icmpNo X26.here hx rfl (hb hby at_96) rfl (teq (by rw [own_add, if_neg (Ne.symm ne01), if_pos rfl] : (own_add u1 u0 u1) = (1 : Int32))).2 ?_
      show Steps p.tables e below (T26.setTop (mkF m 99 #[.val (.int p0), .val (.int (1 : Int32)), .val (.ref u1), .val (.int (own_add u1 u0 u1)), .val (.ref y1), .val (.int (1 : Int32)), .val (.int (1 : Int32))] [])) _
      refine XS.iloadN X26.here hx rfl (hb hby at_99) rfl ?_
      show Steps p.tables e below (T26.setTop (mkF m 100 #[.val (.int p0), .val (.int (1 : Int32)), .val (.ref u1), .val (.int (own_add u1 u0 u1)), .val (.ref y1), .val (.int (1 : Int32)), .val (.int (1 : Int32))] [(.int (own_add u1 u0 u1))])) _
      refine XS.iload X26.here hx rfl (hb hby at_100) rfl ?_
      show Steps p.tables e below (T26.setTop (mkF m 102 #[.val (.int p0), .val (.int (1 : Int32)), .val (.ref u1), .val (.int (own_add u1 u0 u1)), .val (.ref y1), .val (.int (1 : Int32)), .val (.int (1 : Int32))] [(.int (1 : Int32)), (.int (own_add u1 u0 u1))])) _
      refine XS.icmpNo X26.here hx rfl (hb hby at_102) rfl (teq (by rw [own_add, if_neg (Ne.symm ne01), if_pos rfl] : (own_add u1 u0 u1) = (1 : Int32))).2 ?_
      show Steps p.tables e below (T26.setTop (mkF m 105 #[.val (.int p0), .val (.int (1 : Int32)), .val (.ref u1), .val (.int (own_add u1 u0 u1)), .val (.ref y1), .val (.int (1 : Int32)), .val (.int (1 : Int32))] [])) _
      refine XS.iconst X26.here hx rfl (hb hby at_105) ?_
      show Steps p.tables e below (T26.setTop (mkF m 106 #[.val (.int p0), .val (.int (1 : Int32)), .val (.ref u1), .val (.int (own_add u1 u0 u1)), .val (.ref y1), .val (.int (1 : Int32)), .val (.int (1 : Int32))] [(.int (1 : Int32))])) _
      refine XS.goto X26.here hx rfl (pc0 := 106) (pc' := 110) rfl (hb hby at_106) (by decide) (by decide) ?_
      show Steps p.tables e below (T26.setTop (mkF m 110 #[.val (.int p0), .val (.int (1 : Int32)), .val (.ref u1), .val (.int (own_add u1 u0 u1)), .val (.ref y1), .val (.int (1 : Int32)), .val (.int (1 : Int32))] [(.int (1 : Int32))])) _
      exact retN X26 hx (t := .boolean) Bd.returns (by simp) (hb hby at_110) hr
    · show rm0Q Z p0 h0 n0 _ T26.heap _
      rw [e26q]
      exact ⟨rfl, N26⟩
  · obtain ⟨T33, X33, e33, st33⟩ := getS2 X0 hx hZ hown (host := "") (Or.inl (hw _ (List.mem_of_getElem? (i := 43) rfl))) Via.refl e0 Sx2 (g := (mkF m 32 #[.val (.int p0), .val (.int (2 : Int32)), .unset, .unset, .unset, .unset, .unset] [])) rfl (hb hby at_32)
    obtain ⟨cq34, kq34, q34a, q34b, q34c⟩ := isOf hZ e33 (Eu2)
    obtain ⟨_, _, ⟨T34, L34, k34, n34⟩, -, X34, ⟨Lc34, hQ34, l34, y34, z34⟩, st34⟩ := X33.virtualBack hx (y := (⟨"com/example/querent/querent/language/Arithmetic$Operator", "isAdditive", "()Z"⟩ : MethodName)) (z := (⟨"com/example/querent/querent/language/Arithmetic$Operator", "isAdditive", "()Z"⟩ : MethodName)) hown (mvT hZ (hw _ (List.mem_of_getElem? (i := 3) rfl))) (mvT hZ (hw _ (List.mem_of_getElem? (i := 4) rfl))) (notFace_of_selects (args := #[]) (mvT hZ (hw _ (List.mem_of_getElem? (i := 6) rfl)))) (mvT hZ (hw _ (List.mem_of_getElem? (i := 6) rfl))) (mvT hZ (hw _ (List.mem_of_getElem? (i := 5) rfl))) (by decide) (backOf (W := 0) (rm1 l Z aw hw [] u2 u0 u1 h0 n0 Z0 Sx0 Sx1) hZ (hw _ (List.mem_of_getElem? (i := 7) rfl)) (hw _ (List.mem_of_getElem? (i := 1) rfl)) (by decide) (by decide)) q34a q34c (g := (mkF m 44 #[.val (.int p0), .val (.int (2 : Int32)), .val (.ref u2), .unset, .unset, .unset, .unset] [(.ref u2)])) rfl (by rw [hml]; rfl) (Steps.refl _) (argsL := []) (rest := []) (lenOf pd_rm0_0 rfl) rfl (by show 2 * 0 + _ ≤ _; exact Nat.le_of_eq rfl) (hb hby at_44) (fun _ _ => ⟨rfl, e33, (by decide : 0 + 0 ≤ _), (by decide : 0 + 0 ≤ _)⟩)
    dsimp only [Pt.U, Pt.locs, Pt.cells, Pt.slots] at X34 l34 y34 z34 st34 hQ34
    subst l34 y34 z34
    obtain ⟨rfl, N34q, e34q⟩ := hQ34
    have N34 := Fr.app N0 N34q
    obtain ⟨cq35, kq35, q35a, q35b, q35c⟩ := isOf hZ e34q (Eu2)
    obtain ⟨_, _, ⟨T35, L35, k35, n35⟩, -, X35, ⟨Lc35, hQ35, l35, y35, z35⟩, st35⟩ := X34.virtualBack hx (y := (⟨"com/example/querent/querent/language/Arithmetic$Operator", "symbol", "()Ljava/lang/String;"⟩ : MethodName)) (z := (⟨"com/example/querent/querent/language/Arithmetic$Operator", "symbol", "()Ljava/lang/String;"⟩ : MethodName)) hown (mvT hZ (hw _ (List.mem_of_getElem? (i := 9) rfl))) (mvT hZ (hw _ (List.mem_of_getElem? (i := 10) rfl))) (notFace_of_selects (args := #[]) (mvT hZ (hw _ (List.mem_of_getElem? (i := 12) rfl)))) (mvT hZ (hw _ (List.mem_of_getElem? (i := 12) rfl))) (mvT hZ (hw _ (List.mem_of_getElem? (i := 11) rfl))) (by decide) (backOf (W := 0) (rm2 l Z aw hw [] u2 y2 h0 n0 Z0 Fs2) hZ (hw _ (List.mem_of_getElem? (i := 13) rfl)) (hw _ (List.mem_of_getElem? (i := 1) rfl)) (by decide) (by decide)) q35a q35c (g := (mkF m 49 #[.val (.int p0), .val (.int (2 : Int32)), .val (.ref u2), .val (.int (own_add u2 u0 u1)), .unset, .unset, .unset] [(.ref u2)])) rfl (by rw [hml]; rfl) (Steps.refl _) (argsL := []) (rest := []) (lenOf pd_rm0_1 rfl) rfl (by show 2 * 0 + _ ≤ _; exact Nat.le_of_eq rfl) (hb hby at_49) (fun _ _ => ⟨rfl, e34q, (by decide : 0 + 0 ≤ _), (by decide : 0 + 0 ≤ _)⟩)
    dsimp only [Pt.U, Pt.locs, Pt.cells, Pt.slots] at X35 l35 y35 z35 st35 hQ35
    subst l35 y35 z35
    obtain ⟨rfl, N35q, e35q⟩ := hQ35
    have N35 := Fr.app N34 N35q
    have Nl36 := (show Fr s.heap.size _ from by rw [hh, ← hn0]; exact N35)
    obtain ⟨sa36, T36, h36, k136, sb36, sk36, X36, e36, E36, hS36, hk36, hZ, hown, Es36, Fc36, Fv36, Vs36, -, -, IB36, st36⟩ := ldcSV X35 hx hZ hown (hw _ (List.mem_of_getElem? (i := 16) rfl)) own_strW e35q hS0 (Nat.zero_le _) Nl36 hkp0 hIB (by decide) hch1 hcw (vs := [(.int (43 : Int32))]) (z := (1 : Int32)) (by decide) (by decide) rfl (g := (mkF m 56 #[.val (.int p0), .val (.int (2 : Int32)), .val (.ref u2), .val (.int (own_add u2 u0 u1)), .val (.ref y2), .unset, .unset] [(.ref y2)])) rfl (hb hby at_56) (n := 4) (by decide +kernel) (by decide) (by decide) (by decide)
    have Ee_38 : Exa Z h36 y2 "java/lang/String" := (Ey2.ext E36)
    have Ss_39 : Sta Z h36 "java/lang/String" "COMPACT_STRINGS" "Z" (.int cz) := (Sc.ext E36)
    have Ff_40 : Fld Z h36 y2 "java/lang/String" "coder" "B" (.int (0 : Int32)) := (Fc2.ext E36)
    have Ff_41 : Fld Z h36 y2 "java/lang/String" "value" "[B" (.ref z2) := (Fv2.ext E36)
    have Va_42 : Arv Z h36 z2 kz2 .byte (1 : Int32) [(.int (42 : Int32))] (.int (0 : Int32)) := (Vz2.ext E36)
    have Zz_43 : n0 ≤ h36.size := (Nat.le_trans Z0 E36.1)
    obtain ⟨cq37, kq37, q37a, q37b, q37c⟩ := isOf hZ e36 (Ee_38)
    obtain ⟨_, _, ⟨T37, L37, k37, n37⟩, -, X37, ⟨Lc37, hQ37, l37, y37, z37⟩, st37⟩ := X36.virtualBack hx (y := (⟨"java/lang/String", "equals", "(Ljava/lang/Object;)Z"⟩ : MethodName)) (z := (⟨"java/lang/String", "equals", "(Ljava/lang/Object;)Z"⟩ : MethodName)) hown (mvT hZ (hw _ (List.mem_of_getElem? (i := 24) rfl))) (mvT hZ (hw _ (List.mem_of_getElem? (i := 25) rfl))) (notFace_of_selects (args := #[]) (mvT hZ (hw _ (List.mem_of_getElem? (i := 27) rfl)))) (mvT hZ (hw _ (List.mem_of_getElem? (i := 27) rfl))) (mvT hZ (hw _ (List.mem_of_getElem? (i := 26) rfl))) (by decide) (backOf (W := 0) (rm3 l Z aw hw [] y2 sa36 z2 sb36 kz2 sk36 (42 : Int32) (43 : Int32) cz h36 n0 Zz_43 Ee_38 Es36 Ss_39 hcz Ff_40 Ff_41 Va_42 Fc36 Fv36 Vs36) hZ (hw _ (List.mem_of_getElem? (i := 28) rfl)) (hw _ (List.mem_of_getElem? (i := 17) rfl)) (by decide) (by decide)) q37a q37c (g := (mkF m 58 #[.val (.int p0), .val (.int (2 : Int32)), .val (.ref u2), .val (.int (own_add u2 u0 u1)), .val (.ref y2), .unset, .unset] [(.ref sa36), (.ref y2)])) rfl (by rw [hml]; rfl) (Steps.refl _) (argsL := [(.ref sa36)]) (rest := []) (lenOf pd_rm0_2 rfl) rfl (by show 2 * 0 + _ ≤ _; exact Nat.le_of_eq rfl) (hb hby at_58) (fun _ _ => ⟨rfl, e36, (by decide : 2 + 0 ≤ _), (by decide : 8 + 0 ≤ _)⟩)
    dsimp only [Pt.U, Pt.locs, Pt.cells, Pt.slots] at X37 l37 y37 z37 st37 hQ37
    subst l37 y37 z37
    obtain ⟨rfl, N37q, e37q⟩ := hQ37
    have N37 := Fr.app N35 N37q
    have Nl44 := (show Fr s.heap.size _ from by rw [hh, ← hn0]; exact N37)
    obtain ⟨sa44, T44, h44, k144, sb44, sk44, X44, e44, E44, hS44, hk44, hZ, hown, Es44, Fc44, Fv44, Vs44, -, -, IB44, st44⟩ := ldcSV X37 hx hZ hown (hw _ (List.mem_of_getElem? (i := 42) rfl)) own_strW e37q hS36 hk36 Nl44 hkp0 IB36 (by decide) hch2 hcw (vs := [(.int (45 : Int32))]) (z := (1 : Int32)) (by decide) (by decide) rfl (g := (mkF m 66 #[.val (.int p0), .val (.int (2 : Int32)), .val (.ref u2), .val (.int (own_add u2 u0 u1)), .val (.ref y2), .unset, .unset] [(.ref y2)])) rfl (hb hby at_66) (n := 4) (by decide +kernel) (by decide) (by decide) (by decide)
    have Ee_46 : Exa Z h44 y2 "java/lang/String" := (Ee_38.ext E44)
    have Ss_47 : Sta Z h44 "java/lang/String" "COMPACT_STRINGS" "Z" (.int cz) := (Ss_39.ext E44)
    have Ff_48 : Fld Z h44 y2 "java/lang/String" "coder" "B" (.int (0 : Int32)) := (Ff_40.ext E44)
    have Ff_49 : Fld Z h44 y2 "java/lang/String" "value" "[B" (.ref z2) := (Ff_41.ext E44)
    have Va_50 : Arv Z h44 z2 kz2 .byte (1 : Int32) [(.int (42 : Int32))] (.int (0 : Int32)) := (Va_42.ext E44)
    have Zz_51 : n0 ≤ h44.size := (Nat.le_trans Zz_43 E44.1)
    obtain ⟨cq45, kq45, q45a, q45b, q45c⟩ := isOf hZ e44 (Ee_46)
    obtain ⟨_, _, ⟨T45, L45, k45, n45⟩, -, X45, ⟨Lc45, hQ45, l45, y45, z45⟩, st45⟩ := X44.virtualBack hx (y := (⟨"java/lang/String", "equals", "(Ljava/lang/Object;)Z"⟩ : MethodName)) (z := (⟨"java/lang/String", "equals", "(Ljava/lang/Object;)Z"⟩ : MethodName)) hown (mvT hZ (hw _ (List.mem_of_getElem? (i := 24) rfl))) (mvT hZ (hw _ (List.mem_of_getElem? (i := 25) rfl))) (notFace_of_selects (args := #[]) (mvT hZ (hw _ (List.mem_of_getElem? (i := 27) rfl)))) (mvT hZ (hw _ (List.mem_of_getElem? (i := 27) rfl))) (mvT hZ (hw _ (List.mem_of_getElem? (i := 26) rfl))) (by decide) (backOf (W := 0) (rm3 l Z aw hw [] y2 sa44 z2 sb44 kz2 sk44 (42 : Int32) (45 : Int32) cz h44 n0 Zz_51 Ee_46 Es44 Ss_47 hcz Ff_48 Ff_49 Va_50 Fc44 Fv44 Vs44) hZ (hw _ (List.mem_of_getElem? (i := 28) rfl)) (hw _ (List.mem_of_getElem? (i := 17) rfl)) (by decide) (by decide)) q45a q45c (g := (mkF m 68 #[.val (.int p0), .val (.int (2 : Int32)), .val (.ref u2), .val (.int (own_add u2 u0 u1)), .val (.ref y2), .unset, .unset] [(.ref sa44), (.ref y2)])) rfl (by rw [hml]; rfl) (Steps.refl _) (argsL := [(.ref sa44)]) (rest := []) (lenOf pd_rm0_2 rfl) rfl (by show 2 * 0 + _ ≤ _; exact Nat.le_of_eq rfl) (hb hby at_68) (fun _ _ => ⟨rfl, e44, (by decide : 4 + 0 ≤ _), (by decide : 16 + 0 ≤ _)⟩)
    dsimp only [Pt.U, Pt.locs, Pt.cells, Pt.slots] at X45 l45 y45 z45 st45 hQ45
    subst l45 y45 z45
    obtain ⟨rfl, N45q, e45q⟩ := hQ45
    have N45 := Fr.app N37 N45q
    obtain ⟨fs, hr, hrun, hended, ew1, ew2, ew3, ew4⟩ := X45.leaveW hS44 (by rw [e45q]; exact hk44) (v := some (.int (1 : Int32))) (fun h => by rw [Bd.returns] at h; cases h)
    refine ⟨_, _, pre2 _ ?_, hrun, hended, _, _, rfl, ?_, ew1, ew2, ew3, ew4.mono (by decide) (by decide)⟩
    · show Steps p.tables e below (s₁.setTop (mkF m 4 #[.val (.int p0), .val (.int (2 : Int32)), .unset, .unset, .unset, .unset, .unset] [])) _
      refine XS.iloadN X0.here hx rfl (hb hby at_4) rfl ?_
      show Steps p.tables e below (s₁.setTop (mkF m 5 #[.val (.int p0), .val (.int (2 : Int32)), .unset, .unset, .unset, .unset, .unset] [(.int (2 : Int32))])) _
      refine XS.ifYes X0.here hx rfl (pc0 := 5) (pc' := 15) rfl (hb hby at_5) rfl ((if0 _ _).trans (feq ((by decide) : ¬ ((2 : Int32) = (0 : Int32)))).2) (by decide) (by decide) ?_
      show Steps p.tables e below (s₁.setTop (mkF m 15 #[.val (.int p0), .val (.int (2 : Int32)), .unset, .unset, .unset, .unset, .unset] [])) _
      refine XS.iloadN X0.here hx rfl (hb hby at_15) rfl ?_
      show Steps p.tables e below (s₁.setTop (mkF m 16 #[.val (.int p0), .val (.int (2 : Int32)), .unset, .unset, .unset, .unset, .unset] [(.int (2 : Int32))])) _
      refine XS.iconst X0.here hx rfl (hb hby at_16) ?_
      show Steps p.tables e below (s₁.setTop (mkF m 17 #[.val (.int p0), .val (.int (2 : Int32)), .unset, .unset, .unset, .unset, .unset] [(.int (1 : Int32)), (.int (2 : Int32))])) _
      refine XS.icmpYes X0.here hx rfl (pc0 := 17) (pc' := 27) rfl (hb hby at_17) rfl (feq ((by decide) : ¬ ((2 : Int32) = (1 : Int32)))).2 (by decide) (by decide) ?_
      show Steps p.tables e below (s₁.setTop (mkF m 27 #[.val (.int p0), .val (.int (2 : Int32)), .unset, .unset, .unset, .unset, .unset] [])) _
      refine XS.iloadN X0.here hx rfl (hb hby at_27) rfl ?_
      show Steps p.tables e below (s₁.setTop (mkF m 28 #[.val (.int p0), .val (.int (2 : Int32)), .unset, .unset, .unset, .unset, .unset] [(.int (2 : Int32))])) _
      refine XS.iconst X0.here hx rfl (hb hby at_28) ?_
      show Steps p.tables e below (s₁.setTop (mkF m 29 #[.val (.int p0), .val (.int (2 : Int32)), .unset, .unset, .unset, .unset, .unset] [(.int (2 : Int32)), (.int (2 : Int32))])) _
      refine XS.icmpNo X0.here hx rfl (hb hby at_29) rfl (teq (rfl : (2 : Int32) = (2 : Int32))).2 ?_
      show Steps p.tables e below (s₁.setTop (mkF m 32 #[.val (.int p0), .val (.int (2 : Int32)), .unset, .unset, .unset, .unset, .unset] [])) _
      refine st33 _ ?_
      show Steps p.tables e below (T33.setTop (mkF m 35 #[.val (.int p0), .val (.int (2 : Int32)), .unset, .unset, .unset, .unset, .unset] [(.ref u2)])) _
      refine XS.astoreN X33.here hx rfl (hb hby at_35) rfl rfl (l' := #[.val (.int p0), .val (.int (2 : Int32)), .val (.ref u2), .unset, .unset, .unset, .unset]) rfl ?_
      show Steps p.tables e below (T33.setTop (mkF m 36 #[.val (.int p0), .val (.int (2 : Int32)), .val (.ref u2), .unset, .unset, .unset, .unset] [])) _
      refine XS.goto X33.here hx rfl (pc0 := 36) (pc' := 43) rfl (hb hby at_36) (by decide) (by decide) ?_
      show Steps p.tables e below (T33.setTop (mkF m 43 #[.val (.int p0), .val (.int (2 : Int32)), .val (.ref u2), .unset, .unset, .unset, .unset] [])) _
      refine XS.aloadN X33.here hx rfl (hb hby at_43) rfl rfl ?_
      show Steps p.tables e below (T33.setTop (mkF m 44 #[.val (.int p0), .val (.int (2 : Int32)), .val (.ref u2), .unset, .unset, .unset, .unset] [(.ref u2)])) _
      refine st34.trans ?_
      show Steps p.tables e below (T34.setTop (mkF m 47 #[.val (.int p0), .val (.int (2 : Int32)), .val (.ref u2), .unset, .unset, .unset, .unset] [(.int (own_add u2 u0 u1))])) _
      refine XS.istoreN X34.here hx rfl (hb hby at_47) rfl (l' := #[.val (.int p0), .val (.int (2 : Int32)), .val (.ref u2), .val (.int (own_add u2 u0 u1)), .unset, .unset, .unset]) rfl ?_
      show Steps p.tables e below (T34.setTop (mkF m 48 #[.val (.int p0), .val (.int (2 : Int32)), .val (.ref u2), .val (.int (own_add u2 u0 u1)), .unset, .unset, .unset] [])) _
      refine XS.aloadN X34.here hx rfl (hb hby at_48) rfl rfl ?_
      show Steps p.tables e below (T34.setTop (mkF m 49 #[.val (.int p0), .val (.int (2 : Int32)), .val (.ref u2), .val (.int (own_add u2 u0 u1)), .unset, .unset, .unset] [(.ref u2)])) _
      refine st35.trans ?_
      show Steps p.tables e below (T35.setTop (mkF m 52 #[.val (.int p0), .val (.int (2 : Int32)), .val (.ref u2), .val (.int (own_add u2 u0 u1)), .unset, .unset, .unset] [(.ref y2)])) _
      refine XS.astore X35.here hx rfl (hb hby at_52) rfl rfl (l' := #[.val (.int p0), .val (.int (2 : Int32)), .val (.ref u2), .val (.int (own_add u2 u0 u1)), .val (.ref y2), .unset, .unset]) rfl ?_
      show Steps p.tables e below (T35.setTop (mkF m 54 #[.val (.int p0), .val (.int (2 : Int32)), .val (.ref u2), .val (.int (own_add u2 u0 u1)), .val (.ref y2), .unset, .unset] [])) _
      refine XS.aload X35.here hx rfl (hb hby at_54) rfl rfl ?_
      show Steps p.tables e below (T35.setTop (mkF m 56 #[.val (.int p0), .val (.int (2 : Int32)), .val (.ref u2), .val (.int (own_add u2 u0 u1)), .val (.ref y2), .unset, .unset] [(.ref y2)])) _
      refine st36 _ ?_
      show Steps p.tables e below (T36.setTop (mkF m 58 #[.val (.int p0), .val (.int (2 : Int32)), .val (.ref u2), .val (.int (own_add u2 u0 u1)), .val (.ref y2), .unset, .unset] [(.ref sa36), (.ref y2)])) _
      refine st37.trans ?_
      show Steps p.tables e below (T37.setTop (mkF m 61 #[.val (.int p0), .val (.int (2 : Int32)), .val (.ref u2), .val (.int (own_add u2 u0 u1)), .val (.ref y2), .unset, .unset] [(.int (own_eqc (42 : Int32) (43 : Int32)))])) _
      refine XS.ifNo X37.here hx rfl (hb hby at_61) rfl ((if0 _ _).trans (teq (by decide : (own_eqc (42 : Int32) (43 : Int32)) = (0 : Int32))).2) ?_
      show Steps p.tables e below (T37.setTop (mkF m 64 #[.val (.int p0), .val (.int (2 : Int32)), .val (.ref u2), .val (.int (own_add u2 u0 u1)), .val (.ref y2), .unset, .unset] [])) _
      refine XS.aload X37.here hx rfl (hb hby at_64) rfl rfl ?_
      show Steps p.tables e below (T37.setTop (mkF m 66 #[.val (.int p0), .val (.int (2 : Int32)), .val (.ref u2), .val (.int (own_add u2 u0 u1)), .val (.ref y2), .unset, .unset] [(.ref y2)])) _
      refine st44 _ ?_
      show Steps p.tables e below (T44.setTop (mkF m 68 #[.val (.int p0), .val (.int (2 : Int32)), .val (.ref u2), .val (.int (own_add u2 u0 u1)), .val (.ref y2), .unset, .unset] [(.ref sa44), (.ref y2)])) _
      refine st45.trans ?_
      show Steps p.tables e below (T45.setTop (mkF m 71 #[.val (.int p0), .val (.int (2 : Int32)), .val (.ref u2), .val (.int (own_add u2 u0 u1)), .val (.ref y2), .unset, .unset] [(.int (own_eqc (42 : Int32) (45 : Int32)))])) _
      refine XS.ifYes X45.here hx rfl (pc0 := 71) (pc' := 78) rfl (hb hby at_71) rfl ((if0 _ _).trans (teq (by decide : (own_eqc (42 : Int32) (45 : Int32)) = (0 : Int32))).1) (by decide) (by decide) ?_
      show Steps p.tables e below (T45.setTop (mkF m 78 #[.val (.int p0), .val (.int (2 : Int32)), .val (.ref u2), .val (.int (own_add u2 u0 u1)), .val (.ref y2), .unset, .unset] [])) _
      refine XS.iconst X45.here hx rfl (hb hby at_78) ?_
      show Steps p.tables e below (T45.setTop (mkF m 79 #[.val (.int p0), .val (.int (2 : Int32)), .val (.ref u2), .val (.int (own_add u2 u0 u1)), .val (.ref y2), .unset, .unset] [(.int (0 : Int32))])) _
      refine XS.istore X45.here hx rfl (hb hby at_79) rfl (l' := #[.val (.int p0), .val (.int (2 : Int32)), .val (.ref u2), .val (.int (own_add u2 u0 u1)), .val (.ref y2), .val (.int (0 : Int32)), .unset]) rfl ?_
      show Steps p.tables e below (T45.setTop (mkF m 81 #[.val (.int p0), .val (.int (2 : Int32)), .val (.ref u2), .val (.int (own_add u2 u0 u1)), .val (.ref y2), .val (.int (0 : Int32)), .unset] [])) _
      refine XS.iloadN X45.here hx rfl (hb hby at_81) rfl ?_
      show Steps p.tables e below (T45.setTop (mkF m 82 #[.val (.int p0), .val (.int (2 : Int32)), .val (.ref u2), .val (.int (own_add u2 u0 u1)), .val (.ref y2), .val (.int (0 : Int32)), .unset] [(.int (2 : Int32))])) _
      refine XS.iconst X45.here hx rfl (hb hby at_82) ?_
      show Steps p.tables e below (T45.setTop (mkF m 83 #[.val (.int p0), .val (.int (2 : Int32)), .val (.ref u2), .val (.int (own_add u2 u0 u1)), .val (.ref y2), .val (.int (0 : Int32)), .unset] [(.int (2 : Int32)), (.int (2 : Int32))])) _
      refine XS.icmpYes X45.here hx rfl (pc0 := 83) (pc' := 90) rfl (hb hby at_83) rfl (flt ((by decide) : ¬ ((2 : Int32) < (2 : Int32)))).2.1 (by decide) (by decide) ?_
      show Steps p.tables e below (T45.setTop (mkF m 90 #[.val (.int p0), .val (.int (2 : Int32)), .val (.ref u2), .val (.int (own_add u2 u0 u1)), .val (.ref y2), .val (.int (0 : Int32)), .unset] [])) _
      refine XS.iconst X45.here hx rfl (hb hby at_90) ?_
      show Steps p.tables e below (T45.setTop (mkF m 91 #[.val (.int p0), .val (.int (2 : Int32)), .val (.ref u2), .val (.int (own_add u2 u0 u1)), .val (.ref y2), .val (.int (0 : Int32)), .unset] [(.int (0 : Int32))])) _
      refine XS.istore X45.here hx rfl (hb hby at_91) rfl (l' := #[.val (.int p0), .val (.int (2 : Int32)), .val (.ref u2), .val (.int (own_add u2 u0 u1)), .val (.ref y2), .val (.int (0 : Int32)), .val (.int (0 : Int32))]) rfl ?_
      show Steps p.tables e below (T45.setTop (mkF m 93 #[.val (.int p0), .val (.int (2 : Int32)), .val (.ref u2), .val (.int (own_add u2 u0 u1)), .val (.ref y2), .val (.int (0 : Int32)), .val (.int (0 : Int32))] [])) _
      refine XS.iloadN X45.here hx rfl (hb hby at_93) rfl ?_
      show Steps p.tables e below (T45.setTop (mkF m 94 #[.val (.int p0), .val (.int (2 : Int32)), .val (.ref u2), .val (.int (own_add u2 u0 u1)), .val (.ref y2), .val (.int (0 : Int32)), .val (.int (0 : Int32))] [(.int (own_add u2 u0 u1))])) _
      refine XS.iload X45.here hx rfl (hb hby at_94) rfl ?_
      show Steps p.tables e below (T45.setTop (mkF m 96 #[.val (.int p0), .val (.int (2 : Int32)), .val (.ref u2), .val (.int (own_add u2 u0 u1)), .val (.ref y2), .val (.int (0 : Int32)), .val (.int (0 : Int32))] [(.int (0 : Int32)), (.int (own_add u2 u0 u1))])) _
      refine XS.icmpNo X45.here hx rfl (hb hby at_96) rfl (teq (by rw [own_add, if_neg (Ne.symm ne02), if_neg (Ne.symm ne12)] : (own_add u2 u0 u1) = (0 : Int32))).2 ?_
      show Steps p.tables e below (T45.setTop (mkF m 99 #[.val (.int p0), .val (.int (2 : Int32)), .val (.ref u2), .val (.int (own_add u2 u0 u1)), .val (.ref y2), .val (.int (0 : Int32)), .val (.int (0 : Int32))] [])) _
      refine XS.iloadN X45.here hx rfl (hb hby at_99) rfl ?_
      show Steps p.tables e below (T45.setTop (mkF m 100 #[.val (.int p0), .val (.int (2 : Int32)), .val (.ref u2), .val (.int (own_add u2 u0 u1)), .val (.ref y2), .val (.int (0 : Int32)), .val (.int (0 : Int32))] [(.int (own_add u2 u0 u1))])) _
      refine XS.iload X45.here hx rfl (hb hby at_100) rfl ?_
      show Steps p.tables e below (T45.setTop (mkF m 102 #[.val (.int p0), .val (.int (2 : Int32)), .val (.ref u2), .val (.int (own_add u2 u0 u1)), .val (.ref y2), .val (.int (0 : Int32)), .val (.int (0 : Int32))] [(.int (0 : Int32)), (.int (own_add u2 u0 u1))])) _
      refine XS.icmpNo X45.here hx rfl (hb hby at_102) rfl (teq (by rw [own_add, if_neg (Ne.symm ne02), if_neg (Ne.symm ne12)] : (own_add u2 u0 u1) = (0 : Int32))).2 ?_
      show Steps p.tables e below (T45.setTop (mkF m 105 #[.val (.int p0), .val (.int (2 : Int32)), .val (.ref u2), .val (.int (own_add u2 u0 u1)), .val (.ref y2), .val (.int (0 : Int32)), .val (.int (0 : Int32))] [])) _
      refine XS.iconst X45.here hx rfl (hb hby at_105) ?_
      show Steps p.tables e below (T45.setTop (mkF m 106 #[.val (.int p0), .val (.int (2 : Int32)), .val (.ref u2), .val (.int (own_add u2 u0 u1)), .val (.ref y2), .val (.int (0 : Int32)), .val (.int (0 : Int32))] [(.int (1 : Int32))])) _
      refine XS.goto X45.here hx rfl (pc0 := 106) (pc' := 110) rfl (hb hby at_106) (by decide) (by decide) ?_
      show Steps p.tables e below (T45.setTop (mkF m 110 #[.val (.int p0), .val (.int (2 : Int32)), .val (.ref u2), .val (.int (own_add u2 u0 u1)), .val (.ref y2), .val (.int (0 : Int32)), .val (.int (0 : Int32))] [(.int (1 : Int32))])) _
      exact retN X45 hx (t := .boolean) Bd.returns (by simp) (hb hby at_110) hr
    · show rm0Q Z p0 h0 n0 _ T45.heap _
      rw [e45q]
      exact ⟨rfl, N45⟩
  · obtain ⟨T52, X52, e52, st52⟩ := getS2 X0 hx hZ hown (host := "") (Or.inl (hw _ (List.mem_of_getElem? (i := 38) rfl))) Via.refl e0 Sx3 (g := (mkF m 39 #[.val (.int p0), .val (.int (3 : Int32)), .unset, .unset, .unset, .unset, .unset] [])) rfl (hb hby at_39)
    obtain ⟨cq53, kq53, q53a, q53b, q53c⟩ := isOf hZ e52 (Eu3)
    obtain ⟨_, _, ⟨T53, L53, k53, n53⟩, -, X53, ⟨Lc53, hQ53, l53, y53, z53⟩, st53⟩ := X52.virtualBack hx (y := (⟨"com/example/querent/querent/language/Arithmetic$Operator", "isAdditive", "()Z"⟩ : MethodName)) (z := (⟨"com/example/querent/querent/language/Arithmetic$Operator", "isAdditive", "()Z"⟩ : MethodName)) hown (mvT hZ (hw _ (List.mem_of_getElem? (i := 3) rfl))) (mvT hZ (hw _ (List.mem_of_getElem? (i := 4) rfl))) (notFace_of_selects (args := #[]) (mvT hZ (hw _ (List.mem_of_getElem? (i := 6) rfl)))) (mvT hZ (hw _ (List.mem_of_getElem? (i := 6) rfl))) (mvT hZ (hw _ (List.mem_of_getElem? (i := 5) rfl))) (by decide) (backOf (W := 0) (rm1 l Z aw hw [] u3 u0 u1 h0 n0 Z0 Sx0 Sx1) hZ (hw _ (List.mem_of_getElem? (i := 7) rfl)) (hw _ (List.mem_of_getElem? (i := 1) rfl)) (by decide) (by decide)) q53a q53c (g := (mkF m 44 #[.val (.int p0), .val (.int (3 : Int32)), .val (.ref u3), .unset, .unset, .unset, .unset] [(.ref u3)])) rfl (by rw [hml]; rfl) (Steps.refl _) (argsL := []) (rest := []) (lenOf pd_rm0_0 rfl) rfl (by show 2 * 0 + _ ≤ _; exact Nat.le_of_eq rfl) (hb hby at_44) (fun _ _ => ⟨rfl, e52, (by decide : 0 + 0 ≤ _), (by decide : 0 + 0 ≤ _)⟩)
    dsimp only [Pt.U, Pt.locs, Pt.cells, Pt.slots] at X53 l53 y53 z53 st53 hQ53
    subst l53 y53 z53
    obtain ⟨rfl, N53q, e53q⟩ := hQ53
    have N53 := Fr.app N0 N53q
    obtain ⟨cq54, kq54, q54a, q54b, q54c⟩ := isOf hZ e53q (Eu3)
    obtain ⟨_, _, ⟨T54, L54, k54, n54⟩, -, X54, ⟨Lc54, hQ54, l54, y54, z54⟩, st54⟩ := X53.virtualBack hx (y := (⟨"com/example/querent/querent/language/Arithmetic$Operator", "symbol", "()Ljava/lang/String;"⟩ : MethodName)) (z := (⟨"com/example/querent/querent/language/Arithmetic$Operator", "symbol", "()Ljava/lang/String;"⟩ : MethodName)) hown (mvT hZ (hw _ (List.mem_of_getElem? (i := 9) rfl))) (mvT hZ (hw _ (List.mem_of_getElem? (i := 10) rfl))) (notFace_of_selects (args := #[]) (mvT hZ (hw _ (List.mem_of_getElem? (i := 12) rfl)))) (mvT hZ (hw _ (List.mem_of_getElem? (i := 12) rfl))) (mvT hZ (hw _ (List.mem_of_getElem? (i := 11) rfl))) (by decide) (backOf (W := 0) (rm2 l Z aw hw [] u3 y3 h0 n0 Z0 Fs3) hZ (hw _ (List.mem_of_getElem? (i := 13) rfl)) (hw _ (List.mem_of_getElem? (i := 1) rfl)) (by decide) (by decide)) q54a q54c (g := (mkF m 49 #[.val (.int p0), .val (.int (3 : Int32)), .val (.ref u3), .val (.int (own_add u3 u0 u1)), .unset, .unset, .unset] [(.ref u3)])) rfl (by rw [hml]; rfl) (Steps.refl _) (argsL := []) (rest := []) (lenOf pd_rm0_1 rfl) rfl (by show 2 * 0 + _ ≤ _; exact Nat.le_of_eq rfl) (hb hby at_49) (fun _ _ => ⟨rfl, e53q, (by decide : 0 + 0 ≤ _), (by decide : 0 + 0 ≤ _)⟩)
    dsimp only [Pt.U, Pt.locs, Pt.cells, Pt.slots] at X54 l54 y54 z54 st54 hQ54
    subst l54 y54 z54
    obtain ⟨rfl, N54q, e54q⟩ := hQ54
    have N54 := Fr.app N53 N54q
    have Nl55 := (show Fr s.heap.size _ from by rw [hh, ← hn0]; exact N54)
    obtain ⟨sa55, T55, h55, k155, sb55, sk55, X55, e55, E55, hS55, hk55, hZ, hown, Es55, Fc55, Fv55, Vs55, -, -, IB55, st55⟩ := ldcSV X54 hx hZ hown (hw _ (List.mem_of_getElem? (i := 16) rfl)) own_strW e54q hS0 (Nat.zero_le _) Nl55 hkp0 hIB (by decide) hch1 hcw (vs := [(.int (43 : Int32))]) (z := (1 : Int32)) (by decide) (by decide) rfl (g := (mkF m 56 #[.val (.int p0), .val (.int (3 : Int32)), .val (.ref u3), .val (.int (own_add u3 u0 u1)), .val (.ref y3), .unset, .unset] [(.ref y3)])) rfl (hb hby at_56) (n := 4) (by decide +kernel) (by decide) (by decide) (by decide)
    have Ee_57 : Exa Z h55 y3 "java/lang/String" := (Ey3.ext E55)
    have Ss_58 : Sta Z h55 "java/lang/String" "COMPACT_STRINGS" "Z" (.int cz) := (Sc.ext E55)
    have Ff_59 : Fld Z h55 y3 "java/lang/String" "coder" "B" (.int (0 : Int32)) := (Fc3.ext E55)
    have Ff_60 : Fld Z h55 y3 "java/lang/String" "value" "[B" (.ref z3) := (Fv3.ext E55)
    have Va_61 : Arv Z h55 z3 kz3 .byte (1 : Int32) [(.int (47 : Int32))] (.int (0 : Int32)) := (Vz3.ext E55)
    have Zz_62 : n0 ≤ h55.size := (Nat.le_trans Z0 E55.1)
    obtain ⟨cq56, kq56, q56a, q56b, q56c⟩ := isOf hZ e55 (Ee_57)
    obtain ⟨_, _, ⟨T56, L56, k56, n56⟩, -, X56, ⟨Lc56, hQ56, l56, y56, z56⟩, st56⟩ := X55.virtualBack hx (y := (⟨"java/lang/String", "equals", "(Ljava/lang/Object;)Z"⟩ : MethodName)) (z := (⟨"java/lang/String", "equals", "(Ljava/lang/Object;)Z"⟩ : MethodName)) hown (mvT hZ (hw _ (List.mem_of_getElem? (i := 24) rfl))) (mvT hZ (hw _ (List.mem_of_getElem? (i := 25) rfl))) (notFace_of_selects (args := #[]) (mvT hZ (hw _ (List.mem_of_getElem? (i := 27) rfl)))) (mvT hZ (hw _ (List.mem_of_getElem? (i := 27) rfl))) (mvT hZ (hw _ (List.mem_of_getElem? (i := 26) rfl))) (by decide) (backOf (W := 0) (rm3 l Z aw hw [] y3 sa55 z3 sb55 kz3 sk55 (47 : Int32) (43 : Int32) cz h55 n0 Zz_62 Ee_57 Es55 Ss_58 hcz Ff_59 Ff_60 Va_61 Fc55 Fv55 Vs55) hZ (hw _ (List.mem_of_getElem? (i := 28) rfl)) (hw _ (List.mem_of_getElem? (i := 17) rfl)) (by decide) (by decide)) q56a q56c (g := (mkF m 58 #[.val (.int p0), .val (.int (3 : Int32)), .val (.ref u3), .val (.int (own_add u3 u0 u1)), .val (.ref y3), .unset, .unset] [(.ref sa55), (.ref y3)])) rfl (by rw [hml]; rfl) (Steps.refl _) (argsL := [(.ref sa55)]) (rest := []) (lenOf pd_rm0_2 rfl) rfl (by show 2 * 0 + _ ≤ _; exact Nat.le_of_eq rfl) (hb hby at_58) (fun _ _ => ⟨rfl, e55, (by decide : 2 + 0 ≤ _), (by decide : 8 + 0 ≤ _)⟩)
    dsimp only [Pt.U, Pt.locs, Pt.cells, Pt.slots] at X56 l56 y56 z56 st56 hQ56
    subst l56 y56 z56
    obtain ⟨rfl, N56q, e56q⟩ := hQ56
    have N56 := Fr.app N54 N56q
    have Nl63 := (show Fr s.heap.size _ from by rw [hh, ← hn0]; exact N56)
    obtain ⟨sa63, T63, h63, k163, sb63, sk63, X63, e63, E63, hS63, hk63, hZ, hown, Es63, Fc63, Fv63, Vs63, -, -, IB63, st63⟩ := ldcSV X56 hx hZ hown (hw _ (List.mem_of_getElem? (i := 42) rfl)) own_strW e56q hS55 hk55 Nl63 hkp0 IB55 (by decide) hch2 hcw (vs := [(.int (45 : Int32))]) (z := (1 : Int32)) (by decide) (by decide) rfl (g := (mkF m 66 #[.val (.int p0), .val (.int (3 : Int32)), .val (.ref u3), .val (.int (own_add u3 u0 u1)), .val (.ref y3), .unset, .unset] [(.ref y3)])) rfl (hb hby at_66) (n := 4) (by decide +kernel) (by decide) (by decide) (by decide)
    have Ee_65 : Exa Z h63 y3 "java/lang/String" := (Ee_57.ext E63)
    have Ss_66 : Sta Z h63 "java/lang/String" "COMPACT_STRINGS" "Z" (.int cz) := (Ss_58.ext E63)
    have Ff_67 : Fld Z h63 y3 "java/lang/String" "coder" "B" (.int (0 : Int32)) := (Ff_59.ext E63)
    have Ff_68 : Fld Z h63 y3 "java/lang/String" "value" "[B" (.ref z3) := (Ff_60.ext E63)
    have Va_69 : Arv Z h63 z3 kz3 .byte (1 : Int32) [(.int (47 : Int32))] (.int (0 : Int32)) := (Va_61.ext E63)
    have Zz_70 : n0 ≤ h63.size := (Nat.le_trans Zz_62 E63.1)
    obtain ⟨cq64, kq64, q64a, q64b, q64c⟩ := isOf hZ e63 (Ee_65)
    obtain ⟨_, _, ⟨T64, L64, k64, n64⟩, -, X64, ⟨Lc64, hQ64, l64, y64, z64⟩, st64⟩ := X63.virtualBack hx (y := (⟨"java/lang/String", "equals", "(Ljava/lang/Object;)Z"⟩ : MethodName)) (z := (⟨"java/lang/String", "equals", "(Ljava/lang/Object;)Z"⟩ : MethodName)) hown (mvT hZ (hw _ (List.mem_of_getElem? (i := 24) rfl))) (mvT hZ (hw _ (List.mem_of_getElem? (i := 25) rfl))) (notFace_of_selects (args := #[]) (mvT hZ (hw _ (List.mem_of_getElem? (i := 27) rfl)))) (mvT hZ (hw _ (List.mem_of_getElem? (i := 27) rfl))) (mvT hZ (hw _ (List.mem_of_getElem? (i := 26) rfl))) (by decide) (backOf (W := 0) (rm3 l Z aw hw [] y3 sa63 z3 sb63 kz3 sk63 (47 : Int32) (45 : Int32) cz h63 n0 Zz_70 Ee_65 Es63 Ss_66 hcz Ff_67 Ff_68 Va_69 Fc63 Fv63 Vs63) hZ (hw _ (List.mem_of_getElem? (i := 28) rfl)) (hw _ (List.mem_of_getElem? (i := 17) rfl)) (by decide) (by decide)) q64a q64c (g := (mkF m 68 #[.val (.int p0), .val (.int (3 : Int32)), .val (.ref u3), .val (.int (own_add u3 u0 u1)), .val (.ref y3), .unset, .unset] [(.ref sa63), (.ref y3)])) rfl (by rw [hml]; rfl) (Steps.refl _) (argsL := [(.ref sa63)]) (rest := []) (lenOf pd_rm0_2 rfl) rfl (by show 2 * 0 + _ ≤ _; exact Nat.le_of_eq rfl) (hb hby at_68) (fun _ _ => ⟨rfl, e63, (by decide : 4 + 0 ≤ _), (by decide : 16 + 0 ≤ _)⟩)
    dsimp only [Pt.U, Pt.locs, Pt.cells, Pt.slots] at X64 l64 y64 z64 st64 hQ64
    subst l64 y64 z64
    obtain ⟨rfl, N64q, e64q⟩ := hQ64
    have N64 := Fr.app N56 N64q
    obtain ⟨fs, hr, hrun, hended, ew1, ew2, ew3, ew4⟩ := X64.leaveW hS63 (by rw [e64q]; exact hk63) (v := some (.int (1 : Int32))) (fun h => by rw [Bd.returns] at h; cases h)
    refine ⟨_, _, pre2 _ ?_, hrun, hended, _, _, rfl, ?_, ew1, ew2, ew3, ew4.mono (by decide) (by decide)⟩
    · show Steps p.tables e below (s₁.setTop (mkF m 4 #[.val (.int p0), .val (.int (3 : Int32)), .unset, .unset, .unset, .unset, .unset] [])) _
      refine XS.iloadN X0.here hx rfl (hb hby at_4) rfl ?_
      show Steps p.tables e below (s₁.setTop (mkF m 5 #[.val (.int p0), .val (.int (3 : Int32)), .unset, .unset, .unset, .unset, .unset] [(.int (3 : Int32))])) _
      refine XS.ifYes X0.here hx rfl (pc0 := 5) (pc' := 15) rfl (hb hby at_5) rfl ((if0 _ _).trans (feq ((by decide) : ¬ ((3 : Int32) = (0 : Int32)))).2) (by decide) (by decide) ?_
      show Steps p.tables e below (s₁.setTop (mkF m 15 #[.val (.int p0), .val (.int (3 : Int32)), .unset, .unset, .unset, .unset, .unset] [])) _
      refine XS.iloadN X0.here hx rfl (hb hby at_15) rfl ?_
      show Steps p.tables e below (s₁.setTop (mkF m 16 #[.val (.int p0), .val (.int (3 : Int32)), .unset, .unset, .unset, .unset, .unset] [(.int (3 : Int32))])) _
      refine XS.iconst X0.here hx rfl (hb hby at_16) ?_
      show Steps p.tables e below (s₁.setTop (mkF m 17 #[.val (.int p0), .val (.int (3 : Int32)), .unset, .unset, .unset, .unset, .unset] [(.int (1 : Int32)), (.int (3 : Int32))])) _
      refine XS.icmpYes X0.here hx rfl (pc0 := 17) (pc' := 27) rfl (hb hby at_17) rfl (feq ((by decide) : ¬ ((3 : Int32) = (1 : Int32)))).2 (by decide) (by decide) ?_
      show Steps p.tables e below (s₁.setTop (mkF m 27 #[.val (.int p0), .val (.int (3 : Int32)), .unset, .unset, .unset, .unset, .unset] [])) _
      refine XS.iloadN X0.here hx rfl (hb hby at_27) rfl ?_
      show Steps p.tables e below (s₁.setTop (mkF m 28 #[.val (.int p0), .val (.int (3 : Int32)), .unset, .unset, .unset, .unset, .unset] [(.int (3 : Int32))])) _
      refine XS.iconst X0.here hx rfl (hb hby at_28) ?_
      show Steps p.tables e below (s₁.setTop (mkF m 29 #[.val (.int p0), .val (.int (3 : Int32)), .unset, .unset, .unset, .unset, .unset] [(.int (2 : Int32)), (.int (3 : Int32))])) _
      refine XS.icmpYes X0.here hx rfl (pc0 := 29) (pc' := 39) rfl (hb hby at_29) rfl (feq ((by decide) : ¬ ((3 : Int32) = (2 : Int32)))).2 (by decide) (by decide) ?_
      show Steps p.tables e below (s₁.setTop (mkF m 39 #[.val (.int p0), .val (.int (3 : Int32)), .unset, .unset, .unset, .unset, .unset] [])) _
      refine st52 _ ?_
      show Steps p.tables e below (T52.setTop (mkF m 42 #[.val (.int p0), .val (.int (3 : Int32)), .unset, .unset, .unset, .unset, .unset] [(.ref u3)])) _
      refine XS.astoreN X52.here hx rfl (hb hby at_42) rfl rfl (l' := #[.val (.int p0), .val (.int (3 : Int32)), .val (.ref u3), .unset, .unset, .unset, .unset]) rfl ?_
      show Steps p.tables e below (T52.setTop (mkF m 43 #[.val (.int p0), .val (.int (3 : Int32)), .val (.ref u3), .unset, .unset, .unset, .unset] [])) _
      refine XS.aloadN X52.here hx rfl (hb hby at_43) rfl rfl ?_
      show Steps p.tables e below (T52.setTop (mkF m 44 #[.val (.int p0), .val (.int (3 : Int32)), .val (.ref u3), .unset, .unset, .unset, .unset] [(.ref u3)])) _
      refine st53.trans ?_
      show Steps p.tables e below (T53.setTop (mkF m 47 #[.val (.int p0), .val (.int (3 : Int32)), .val (.ref u3), .unset, .unset, .unset, .unset] [(.int (own_add u3 u0 u1))])) _
      refine XS.istoreN X53.here hx rfl (hb hby at_47) rfl (l' := #[.val (.int p0), .val (.int (3 : Int32)), .val (.ref u3), .val (.int (own_add u3 u0 u1)), .unset, .unset, .unset]) rfl ?_
      show Steps p.tables e below (T53.setTop (mkF m 48 #[.val (.int p0), .val (.int (3 : Int32)), .val (.ref u3), .val (.int (own_add u3 u0 u1)), .unset, .unset, .unset] [])) _
      refine XS.aloadN X53.here hx rfl (hb hby at_48) rfl rfl ?_
      show Steps p.tables e below (T53.setTop (mkF m 49 #[.val (.int p0), .val (.int (3 : Int32)), .val (.ref u3), .val (.int (own_add u3 u0 u1)), .unset, .unset, .unset] [(.ref u3)])) _
      refine st54.trans ?_
      show Steps p.tables e below (T54.setTop (mkF m 52 #[.val (.int p0), .val (.int (3 : Int32)), .val (.ref u3), .val (.int (own_add u3 u0 u1)), .unset, .unset, .unset] [(.ref y3)])) _
      refine XS.astore X54.here hx rfl (hb hby at_52) rfl rfl (l' := #[.val (.int p0), .val (.int (3 : Int32)), .val (.ref u3), .val (.int (own_add u3 u0 u1)), .val (.ref y3), .unset, .unset]) rfl ?_
      show Steps p.tables e below (T54.setTop (mkF m 54 #[.val (.int p0), .val (.int (3 : Int32)), .val (.ref u3), .val (.int (own_add u3 u0 u1)), .val (.ref y3), .unset, .unset] [])) _
      refine XS.aload X54.here hx rfl (hb hby at_54) rfl rfl ?_
      show Steps p.tables e below (T54.setTop (mkF m 56 #[.val (.int p0), .val (.int (3 : Int32)), .val (.ref u3), .val (.int (own_add u3 u0 u1)), .val (.ref y3), .unset, .unset] [(.ref y3)])) _
      refine st55 _ ?_
      show Steps p.tables e below (T55.setTop (mkF m 58 #[.val (.int p0), .val (.int (3 : Int32)), .val (.ref u3), .val (.int (own_add u3 u0 u1)), .val (.ref y3), .unset, .unset] [(.ref sa55), (.ref y3)])) _
      refine st56.trans ?_
      show Steps p.tables e below (T56.setTop (mkF m 61 #[.val (.int p0), .val (.int (3 : Int32)), .val (.ref u3), .val (.int (own_add u3 u0 u1)), .val (.ref y3), .unset, .unset] [(.int (own_eqc (47 : Int32) (43 : Int32)))])) _
      refine XS.ifNo X56.here hx rfl (hb hby at_61) rfl ((if0 _ _).trans (teq (by decide : (own_eqc (47 : Int32) (43 : Int32)) = (0 : Int32))).2) ?_
      show Steps p.tables e below (T56.setTop (mkF m 64 #[.val (.int p0), .val (.int (3 : Int32)), .val (.ref u3), .val (.int (own_add u3 u0 u1)), .val (.ref y3), .unset, .unset] [])) _
      refine XS.aload X56.here hx rfl (hb hby at_64) rfl rfl ?_
      show Steps p.tables e below (T56.setTop (mkF m 66 #[.val (.int p0), .val (.int (3 : Int32)), .val (.ref u3), .val (.int (own_add u3 u0 u1)), .val (.ref y3), .unset, .unset] [(.ref y3)])) _
      refine st63 _ ?_
      show Steps p.tables e below (T63.setTop (mkF m 68 #[.val (.int p0), .val (.int (3 : Int32)), .val (.ref u3), .val (.int (own_add u3 u0 u1)), .val (.ref y3), .unset, .unset] [(.ref sa63), (.ref y3)])) _
      refine st64.trans ?_
      show Steps p.tables e below (T64.setTop (mkF m 71 #[.val (.int p0), .val (.int (3 : Int32)), .val (.ref u3), .val (.int (own_add u3 u0 u1)), .val (.ref y3), .unset, .unset] [(.int (own_eqc (47 : Int32) (45 : Int32)))])) _
      refine XS.ifYes X64.here hx rfl (pc0 := 71) (pc' := 78) rfl (hb hby at_71) rfl ((if0 _ _).trans (teq (by decide : (own_eqc (47 : Int32) (45 : Int32)) = (0 : Int32))).1) (by decide) (by decide) ?_
      show Steps p.tables e below (T64.setTop (mkF m 78 #[.val (.int p0), .val (.int (3 : Int32)), .val (.ref u3), .val (.int (own_add u3 u0 u1)), .val (.ref y3), .unset, .unset] [])) _
      refine XS.iconst X64.here hx rfl (hb hby at_78) ?_
      show Steps p.tables e below (T64.setTop (mkF m 79 #[.val (.int p0), .val (.int (3 : Int32)), .val (.ref u3), .val (.int (own_add u3 u0 u1)), .val (.ref y3), .unset, .unset] [(.int (0 : Int32))])) _
      refine XS.istore X64.here hx rfl (hb hby at_79) rfl (l' := #[.val (.int p0), .val (.int (3 : Int32)), .val (.ref u3), .val (.int (own_add u3 u0 u1)), .val (.ref y3), .val (.int (0 : Int32)), .unset]) rfl ?_
      show Steps p.tables e below (T64.setTop (mkF m 81 #[.val (.int p0), .val (.int (3 : Int32)), .val (.ref u3), .val (.int (own_add u3 u0 u1)), .val (.ref y3), .val (.int (0 : Int32)), .unset] [])) _
      refine XS.iloadN X64.here hx rfl (hb hby at_81) rfl ?_
      show Steps p.tables e below (T64.setTop (mkF m 82 #[.val (.int p0), .val (.int (3 : Int32)), .val (.ref u3), .val (.int (own_add u3 u0 u1)), .val (.ref y3), .val (.int (0 : Int32)), .unset] [(.int (3 : Int32))])) _
      refine XS.iconst X64.here hx rfl (hb hby at_82) ?_
      show Steps p.tables e below (T64.setTop (mkF m 83 #[.val (.int p0), .val (.int (3 : Int32)), .val (.ref u3), .val (.int (own_add u3 u0 u1)), .val (.ref y3), .val (.int (0 : Int32)), .unset] [(.int (2 : Int32)), (.int (3 : Int32))])) _
      refine XS.icmpYes X64.here hx rfl (pc0 := 83) (pc' := 90) rfl (hb hby at_83) rfl (flt ((by decide) : ¬ ((3 : Int32) < (2 : Int32)))).2.1 (by decide) (by decide) ?_
      show Steps p.tables e below (T64.setTop (mkF m 90 #[.val (.int p0), .val (.int (3 : Int32)), .val (.ref u3), .val (.int (own_add u3 u0 u1)), .val (.ref y3), .val (.int (0 : Int32)), .unset] [])) _
      refine XS.iconst X64.here hx rfl (hb hby at_90) ?_
      show Steps p.tables e below (T64.setTop (mkF m 91 #[.val (.int p0), .val (.int (3 : Int32)), .val (.ref u3), .val (.int (own_add u3 u0 u1)), .val (.ref y3), .val (.int (0 : Int32)), .unset] [(.int (0 : Int32))])) _
      refine XS.istore X64.here hx rfl (hb hby at_91) rfl (l' := #[.val (.int p0), .val (.int (3 : Int32)), .val (.ref u3), .val (.int (own_add u3 u0 u1)), .val (.ref y3), .val (.int (0 : Int32)), .val (.int (0 : Int32))]) rfl ?_
      show Steps p.tables e below (T64.setTop (mkF m 93 #[.val (.int p0), .val (.int (3 : Int32)), .val (.ref u3), .val (.int (own_add u3 u0 u1)), .val (.ref y3), .val (.int (0 : Int32)), .val (.int (0 : Int32))] [])) _
      refine XS.iloadN X64.here hx rfl (hb hby at_93) rfl ?_
      show Steps p.tables e below (T64.setTop (mkF m 94 #[.val (.int p0), .val (.int (3 : Int32)), .val (.ref u3), .val (.int (own_add u3 u0 u1)), .val (.ref y3), .val (.int (0 : Int32)), .val (.int (0 : Int32))] [(.int (own_add u3 u0 u1))])) _
      refine XS.iload X64.here hx rfl (hb hby at_94) rfl ?_
      show Steps p.tables e below (T64.setTop (mkF m 96 #[.val (.int p0), .val (.int (3 : Int32)), .val (.ref u3), .val (.int (own_add u3 u0 u1)), .val (.ref y3), .val (.int (0 : Int32)), .val (.int (0 : Int32))] [(.int (0 : Int32)), (.int (own_add u3 u0 u1))])) _
      refine XS.icmpNo X64.here hx rfl (hb hby at_96) rfl (teq (by rw [own_add, if_neg (Ne.symm ne03), if_neg (Ne.symm ne13)] : (own_add u3 u0 u1) = (0 : Int32))).2 ?_
      show Steps p.tables e below (T64.setTop (mkF m 99 #[.val (.int p0), .val (.int (3 : Int32)), .val (.ref u3), .val (.int (own_add u3 u0 u1)), .val (.ref y3), .val (.int (0 : Int32)), .val (.int (0 : Int32))] [])) _
      refine XS.iloadN X64.here hx rfl (hb hby at_99) rfl ?_
      show Steps p.tables e below (T64.setTop (mkF m 100 #[.val (.int p0), .val (.int (3 : Int32)), .val (.ref u3), .val (.int (own_add u3 u0 u1)), .val (.ref y3), .val (.int (0 : Int32)), .val (.int (0 : Int32))] [(.int (own_add u3 u0 u1))])) _
      refine XS.iload X64.here hx rfl (hb hby at_100) rfl ?_
      show Steps p.tables e below (T64.setTop (mkF m 102 #[.val (.int p0), .val (.int (3 : Int32)), .val (.ref u3), .val (.int (own_add u3 u0 u1)), .val (.ref y3), .val (.int (0 : Int32)), .val (.int (0 : Int32))] [(.int (0 : Int32)), (.int (own_add u3 u0 u1))])) _
      refine XS.icmpNo X64.here hx rfl (hb hby at_102) rfl (teq (by rw [own_add, if_neg (Ne.symm ne03), if_neg (Ne.symm ne13)] : (own_add u3 u0 u1) = (0 : Int32))).2 ?_
      show Steps p.tables e below (T64.setTop (mkF m 105 #[.val (.int p0), .val (.int (3 : Int32)), .val (.ref u3), .val (.int (own_add u3 u0 u1)), .val (.ref y3), .val (.int (0 : Int32)), .val (.int (0 : Int32))] [])) _
      refine XS.iconst X64.here hx rfl (hb hby at_105) ?_
      show Steps p.tables e below (T64.setTop (mkF m 106 #[.val (.int p0), .val (.int (3 : Int32)), .val (.ref u3), .val (.int (own_add u3 u0 u1)), .val (.ref y3), .val (.int (0 : Int32)), .val (.int (0 : Int32))] [(.int (1 : Int32))])) _
      refine XS.goto X64.here hx rfl (pc0 := 106) (pc' := 110) rfl (hb hby at_106) (by decide) (by decide) ?_
      show Steps p.tables e below (T64.setTop (mkF m 110 #[.val (.int p0), .val (.int (3 : Int32)), .val (.ref u3), .val (.int (own_add u3 u0 u1)), .val (.ref y3), .val (.int (0 : Int32)), .val (.int (0 : Int32))] [(.int (1 : Int32))])) _
      exact retN X64 hx (t := .boolean) Bd.returns (by simp) (hb hby at_110) hr
    · show rm0Q Z p0 h0 n0 _ T64.heap _
      rw [e64q]
      exact ⟨rfl, N64⟩
set_option maxRecDepth 65536 in
set_option maxHeartbeats 40000000 in
theorem comes_1 {Post : Tables → Env → Array Value → State → Outcome → State → Prop} (hpost : ∀ tb e args s v u, (limb_1_1.after args s (.returned v) u = true ∧ limb_1_2.after args s (.returned v) u = true ∧ True) → ReturnedEndW s (.returned v) u (Jvm.fieldLocs frame_1_writes args s ++ Jvm.arrayLocs frame_1_arrays args s ++ Jvm.staticLocs frame_1_statics s) 8 2112 → Post tb e args s (.returned v) u) :
    ArmFor flags0 classFile x code maxLocals ret World_1 tables_1 room_1 Calls_1 rest_1 Pre_1 Post := by
  intro l hfl _ _ p e ha hc hk s m args below hf hA hF happ hP
  obtain ⟨hcalls, hrest, hpre⟩ := hP
  obtain ⟨-, -, -, hnamed, -, -, -, hat⟩ := (Spec.applies_iff hf).mp happ
  obtain ⟨hg, hn⟩ := and_e (Cond.before_iff.mp (show (Jvm.Cond.and given_1 narrow_1).before args s = true from hpre))
  obtain ⟨g1, g2⟩ := and_e hg
  obtain ⟨w0, rfl⟩ : ∃ w0 : Value, args = #[w0] := by
    have hs : args.size = 1 := by simpa [Cond.value, given_1] using g1
    obtain ⟨L⟩ := args
    match L, hs with
    | [w0], _ => exact ⟨w0, rfl⟩
  have hw := fun d (hd : d ∈ tables_1) => atoms_spec (ws := Jvm.Cond.code x code maxLocals ret :: tables_1) hat d (List.mem_cons_of_mem _ hd)
  have hfit : Fit s := fun {y c} hc i hi => by
    obtain ⟨ha, rfl⟩ := Array.getElem?_eq_some_iff.mp hc
    have q := List.all_eq_true.mp ((Array.all_eq_true_iff_forall_mem.mp hF) _ (Array.getElem_mem ha)) i (List.mem_range.mpr hi)
    simpa [Array.getElem?_eq_getElem hi] using q
  obtain ⟨hsets, hown0⟩ := atoms_of _ (rest_1_c_eq ▸ (show rest_1_c.before _ s = true from hrest))
  have hr0 := Cond.before_iff.mp hown0
  obtain ⟨i0, ei0⟩ := is_v g2
  obtain rfl : w0 = (.int i0) := Option.some.inj ei0
  obtain ⟨x0, w0⟩ := and_e hn
  obtain ⟨x1, w1⟩ := and_e w0
  obtain ⟨x2, w2⟩ := and_e w1
  obtain ⟨x3, w3⟩ := and_e w2
  obtain ⟨x4, w4⟩ := and_e w3
  obtain ⟨x5, w5⟩ := and_e w4
  obtain ⟨x6, w6⟩ := and_e w5
  obtain ⟨x7, w7⟩ := and_e w6
  obtain ⟨x8, w8⟩ := and_e w7
  obtain ⟨x9, w9⟩ := and_e w8
  obtain ⟨x10, w10⟩ := and_e w9
  obtain ⟨x11, w11⟩ := and_e w10
  obtain ⟨x12, w12⟩ := and_e w11
  obtain ⟨x13, w13⟩ := and_e w12
  obtain ⟨x14, w14⟩ := and_e w13
  obtain ⟨x15, w15⟩ := and_e w14
  obtain ⟨x16, w16⟩ := and_e w15
  obtain ⟨x17, w17⟩ := and_e w16
  obtain ⟨x18, w18⟩ := and_e w17
  obtain ⟨x19, w19⟩ := and_e w18
  obtain ⟨x20, w20⟩ := and_e w19
  obtain ⟨x21, w21⟩ := and_e w20
  obtain ⟨x22, w22⟩ := and_e w21
  obtain ⟨x23, w23⟩ := and_e w22
  obtain ⟨x24, w24⟩ := and_e w23
  obtain ⟨x25, w25⟩ := and_e w24
  obtain ⟨x26, w26⟩ := and_e w25
  obtain ⟨u0, _, _, _, ev0, -⟩ := Cond.exactly_spec (Cond.before_iff.mpr x0)
  have Eu0 := Exa.start ev0 x0
  have Sx0 := Sta.start ev0 (Or.inr ⟨(hw _ (List.mem_of_getElem? (i := 1) rfl)), (hw _ (List.mem_of_getElem? (i := 2) rfl))⟩)
  have o0 := Cond.eq_int (Cond.before_iff.mpr x8) rfl
  have Fo0 : Fld s s.heap u0 "java/lang/Enum" "ordinal" "I" (.int (0 : Int32)) := Fld.start (by rw [Term.eval, ev0] at o0; exact o0)
  obtain ⟨y0, _, _, _, ey0, -⟩ := Cond.exactly_spec (Cond.before_iff.mpr x1)
  have Ey0 := Exa.start ey0 x1
  have Fs0 : Fld s s.heap u0 "com/example/querent/querent/language/Arithmetic$Operator" "symbol" "Ljava/lang/String;" (.ref y0) := Fld.start (by have q := ey0; rw [Term.eval, ev0] at q; exact q)
  obtain ⟨z0, kz0, Fv0, Fc0, Vz0⟩ := own_str1 hfit ey0 x2 x3 x4 x5
  obtain ⟨u1, _, _, _, ev1, -⟩ := Cond.exactly_spec (Cond.before_iff.mpr x9)
  have Eu1 := Exa.start ev1 x9
  have Sx1 := Sta.start ev1 (Or.inr ⟨(hw _ (List.mem_of_getElem? (i := 1) rfl)), (hw _ (List.mem_of_getElem? (i := 41) rfl))⟩)
  have o1 := Cond.eq_int (Cond.before_iff.mpr x10) rfl
  have Fo1 : Fld s s.heap u1 "java/lang/Enum" "ordinal" "I" (.int (1 : Int32)) := Fld.start (by rw [Term.eval, ev1] at o1; exact o1)
  obtain ⟨y1, _, _, _, ey1, -⟩ := Cond.exactly_spec (Cond.before_iff.mpr x23)
  have Ey1 := Exa.start ey1 x23
  have Fs1 : Fld s s.heap u1 "com/example/querent/querent/language/Arithmetic$Operator" "symbol" "Ljava/lang/String;" (.ref y1) := Fld.start (by have q := ey1; rw [Term.eval, ev1] at q; exact q)
  obtain ⟨z1, kz1, Fv1, Fc1, Vz1⟩ := own_str1 hfit ey1 x24 x25 x26 w26
  obtain ⟨u2, _, _, _, ev2, -⟩ := Cond.exactly_spec (Cond.before_iff.mpr x16)
  have Eu2 := Exa.start ev2 x16
  have Sx2 := Sta.start ev2 (Or.inr ⟨(hw _ (List.mem_of_getElem? (i := 1) rfl)), (hw _ (List.mem_of_getElem? (i := 44) rfl))⟩)
  have o2 := Cond.eq_int (Cond.before_iff.mpr x17) rfl
  have Fo2 : Fld s s.heap u2 "java/lang/Enum" "ordinal" "I" (.int (2 : Int32)) := Fld.start (by rw [Term.eval, ev2] at o2; exact o2)
  obtain ⟨y2, _, _, _, ey2, -⟩ := Cond.exactly_spec (Cond.before_iff.mpr x18)
  have Ey2 := Exa.start ey2 x18
  have Fs2 : Fld s s.heap u2 "com/example/querent/querent/language/Arithmetic$Operator" "symbol" "Ljava/lang/String;" (.ref y2) := Fld.start (by have q := ey2; rw [Term.eval, ev2] at q; exact q)
  obtain ⟨z2, kz2, Fv2, Fc2, Vz2⟩ := own_str1 hfit ey2 x19 x20 x21 x22
  obtain ⟨u3, _, _, _, ev3, -⟩ := Cond.exactly_spec (Cond.before_iff.mpr x6)
  have Eu3 := Exa.start ev3 x6
  have Sx3 := Sta.start ev3 (Or.inr ⟨(hw _ (List.mem_of_getElem? (i := 1) rfl)), (hw _ (List.mem_of_getElem? (i := 39) rfl))⟩)
  have o3 := Cond.eq_int (Cond.before_iff.mpr x7) rfl
  have Fo3 : Fld s s.heap u3 "java/lang/Enum" "ordinal" "I" (.int (3 : Int32)) := Fld.start (by rw [Term.eval, ev3] at o3; exact o3)
  obtain ⟨y3, _, _, _, ey3, -⟩ := Cond.exactly_spec (Cond.before_iff.mpr x11)
  have Ey3 := Exa.start ey3 x11
  have Fs3 : Fld s s.heap u3 "com/example/querent/querent/language/Arithmetic$Operator" "symbol" "Ljava/lang/String;" (.ref y3) := Fld.start (by have q := ey3; rw [Term.eval, ev3] at q; exact q)
  obtain ⟨z3, kz3, Fv3, Fc3, Vz3⟩ := own_str1 hfit ey3 x12 x13 x14 x15
  obtain ⟨cz, Sc, hcz⟩ : ∃ cz : Int32, Sta s s.heap "java/lang/String" "COMPACT_STRINGS" "Z" (.int cz) ∧ ¬ cz = (0 : Int32) := own_compact (hsets _ (List.mem_of_getElem? (i := 0) rfl)) (hsets _ (List.mem_of_getElem? (i := 1) rfl)) (hsets _ (List.mem_of_getElem? (i := 2) rfl))
  have hch1 := hcalls.1 ("com/example/querent/querent/language/OperatorIsAdditivePinLaw", 30) (by simp [consts_1])
  have hch2 := hcalls.1 ("com/example/querent/querent/language/OperatorIsAdditivePinLaw", 38) (by simp [consts_1])
  obtain ⟨n, o, h1, h2, h3, _, L, rfl, ⟨rfl, N⟩, hq⟩ := rm0 l s _ hw tables_1 i0 cz u0 u1 u2 u3 y0 y1 y2 y3 z0 z1 z2 z3 kz0 kz1 kz2 kz3 s.heap s.heap.size (Nat.le_refl _) Sc hcz Sx0 Eu0 Fs0 Ey0 Fc0 Fv0 Vz0 Sx1 Eu1 Fs1 Ey1 Fc1 Fv1 Vz1 Sx2 Eu2 Fs2 Ey2 Fc2 Fv2 Vz2 Sx3 Eu3 Fs3 Ey3 Fc3 Fv3 Vz3 (Fld.ne Fo0 Fo1 (by decide)) (Fld.ne Fo0 Fo2 (by decide)) (Fld.ne Fo0 Fo3 (by decide)) (Fld.ne Fo1 Fo2 (by decide)) (Fld.ne Fo1 Fo3 (by decide)) rfl rfl hch1 hch2 (hsets _ (List.mem_of_getElem? (i := 2) rfl)) p e ha hc hk s m _ below hf ((Spec.applies_iff_loose hf).mp happ).1 ⟨rfl, State.Warmed39.refl s, rfl, IB.start⟩ trivial
  refine ⟨n, _, h1, h2, h3, hpost _ _ _ _ _ _ ⟨Cond.after_iff.mpr rfl, Cond.after_iff.mpr (eq_i res_at (Term.int_eval (1)) rfl), trivial⟩ ⟨hq.1, hq.2.1, hq.2.2.1, (hq.2.2.2.sift fun y hy => Or.inr (N y hy)).mono (by decide) (by decide)⟩⟩
theorem main_1_1 : Claimed_1_1 := comes_1 fun _ _ _ _ _ _ h hF => ⟨h.1, hF⟩
theorem main_1_2 : Claimed_1_2 := comes_1 fun _ _ _ _ _ _ h hF => ⟨h.2.1, hF⟩
end Jvm.Pilot.@@N@@
namespace Jvm.Pilot.@@N@@
open Jvm Jvm.ClassFile Sem Op Lib Jvm.Free Jvm.Stand Jvm.Pilot.@@N@@.Jvm.D
/-! MADE BY PROGRAM (witnessworld.py) out of the Statement's table words and the real class files: 18 classes; the members and pool entries that the words name. The judged class is class 1, her method 1. -/
namespace start1
open Jvm.ClassFile
def u (s : String) : CpInfo := .utf8 (stringToUtf16 s)
/-- a pool by its gaps: so many unusable entries, then the entry; so many at the end -/
def gap : Nat → List CpInfo → List CpInfo
  | 0, r => r
  | n + 1, r => .unusable :: gap n r
def poolList (es : List (Nat × CpInfo)) (last : Nat) : List CpInfo := es.foldr (fun e r => gap e.1 (e.2 :: r)) (gap last [])
def pool (es : List (Nat × CpInfo)) (last : Nat) : Array CpInfo := ⟨poolList es last⟩
def fileOf (pool : Array CpInfo) (this : Nat) (attrs : Array Attribute := #[]) (ms : Array MethodInfo := #[]) (fl : Nat := 33) (sup : Nat := 0) (ifs : Array Nat := #[]) (fds : Array FieldInfo := #[]) : ClassFile where
  minorVersion := 0
  majorVersion := 65
  constantPool := pool
  accessFlags := fl
  thisClass := this
  superClass := sup
  interfaces := ifs
  fields := fds
  methods := ms
  attributes := attrs
def plain (name : String) (sup : Option ClassId) : Class where
  name := name
  kind := .ordinary
  loader := none
  accessFlags := 33
  super := sup
  interfaces := #[]
  cf := none
  fields := #[]
  methods := #[]
  instanceTypes := #[]
  staticTypes := #[]
  resolved := #[]
  callSites := []
  init := .initialized
  statics := none
  mirror := none

def pool0 : Array CpInfo := pool [(5, u "<init>"), (0, u "()V"), (1, .class_ 10), (1, u "java/lang/Object")] 113

def k0m0 : Method := { name := "<init>", desc := "()V", sig := { parameters := [], returnType := none }, accessFlags := 1, code := none }
/-- java/lang/Object -/
def k0 : Class := { plain "java/lang/Object" none with
  accessFlags := 33
  interfaces := #[]
  cf := some (fileOf pool0 8 #[] #[{ accessFlags := 1, nameIndex := 5, descriptorIndex := 6, attributes := #[] }] 33 0 #[] #[])
  fields := #[]
  methods := #[k0m0]
  instanceTypes := #[]
  staticTypes := #[]
  resolved := Array.replicate 124 none
  statics := none }

def pool1 : Array CpInfo := pool [(2, .class_ 4), (1, u "java/lang/Object"), (0, u "<init>"), (0, u "()V"), (0, .fieldref 8 9), (0, .class_ 10), (0, .nameAndType 11 12), (0, u "com/example/querent/querent/language/Arithmetic$Operator"), (0, u "ADD"), (0, u "Lcom/example/querent/querent/language/Arithmetic$Operator;"), (0, .fieldref 8 14), (0, .nameAndType 15 12), (0, u "SUBTRACT"), (0, .fieldref 8 17), (0, .nameAndType 18 12), (0, u "MULTIPLY"), (0, .fieldref 8 20), (0, .nameAndType 21 12), (0, u "DIVIDE"), (0, .methodref 8 23), (0, .nameAndType 24 25), (0, u "isAdditive"), (0, u "()Z"), (0, .methodref 8 27), (0, .nameAndType 28 29), (0, u "symbol"), (0, u "()Ljava/lang/String;"), (0, .string 31), (0, u "+"), (0, .methodref 33 34), (0, .class_ 35), (0, .nameAndType 36 37), (0, u "java/lang/String"), (0, u "equals"), (0, u "(Ljava/lang/Object;)Z"), (0, .string 39), (0, u "-"), (0, .class_ 41), (0, u "com/example/querent/querent/language/OperatorIsAdditivePinLaw"), (2, u "law"), (0, u "(I)Z")] 7

def k1m0 : Method := { name := "<init>", desc := "()V", sig := { parameters := [], returnType := none }, accessFlags := 1, code := none }
def k1c1 : Code := { maxStack := 2, maxLocals := 7, code := code, exceptionTable := #[], attributes := #[] }
def k1m1 : Method := { name := "law", desc := "(I)Z", sig := { parameters := [.int], returnType := some .boolean }, accessFlags := 9, code := some k1c1 }
/-- com/example/querent/querent/language/OperatorIsAdditivePinLaw -/
def k1 : Class := { plain "com/example/querent/querent/language/OperatorIsAdditivePinLaw" (some 0) with
  accessFlags := 49
  interfaces := #[]
  cf := some (fileOf pool1 40 #[] #[{ accessFlags := 1, nameIndex := 5, descriptorIndex := 6, attributes := #[] }, { accessFlags := 9, nameIndex := 44, descriptorIndex := 45, attributes := #[] }] 49 2 #[] #[])
  fields := #[]
  methods := #[k1m0, k1m1]
  instanceTypes := #[]
  staticTypes := #[]
  resolved := Array.replicate 53 none
  statics := none }

def pool2 : Array CpInfo := pool [(1, .class_ 2), (0, u "java/lang/constant/Constable"), (0, .class_ 4), (0, u "java/lang/Object")] 6

/-- java/lang/constant/Constable -/
def k2 : Class := { plain "java/lang/constant/Constable" (some 0) with
  accessFlags := 1537
  interfaces := #[]
  cf := some (fileOf pool2 1 #[] #[] 1537 3 #[] #[])
  fields := #[]
  methods := #[]
  instanceTypes := #[]
  staticTypes := #[]
  resolved := Array.replicate 11 none
  statics := none }

def pool3 : Array CpInfo := pool [(1, .class_ 2), (0, u "java/lang/Comparable"), (0, .class_ 4), (0, u "java/lang/Object")] 7

/-- java/lang/Comparable -/
def k3 : Class := { plain "java/lang/Comparable" (some 0) with
  accessFlags := 1537
  interfaces := #[]
  cf := some (fileOf pool3 1 #[] #[] 1537 3 #[] #[])
  fields := #[]
  methods := #[]
  instanceTypes := #[]
  staticTypes := #[]
  resolved := Array.replicate 12 none
  statics := none }

def pool4 : Array CpInfo := pool [(1, .class_ 2), (0, u "java/io/Serializable"), (0, .class_ 4), (0, u "java/lang/Object")] 2

/-- java/io/Serializable -/
def k4 : Class := { plain "java/io/Serializable" (some 0) with
  accessFlags := 1537
  interfaces := #[]
  cf := some (fileOf pool4 1 #[] #[] 1537 3 #[] #[])
  fields := #[]
  methods := #[]
  instanceTypes := #[]
  staticTypes := #[]
  resolved := Array.replicate 7 none
  statics := none }

def pool5 : Array CpInfo := pool [(2, .class_ 4), (1, u "java/lang/Enum"), (0, u "name"), (0, u "Ljava/lang/String;"), (2, u "ordinal"), (0, u "I"), (1, .class_ 14), (1, u "java/lang/Object"), (4, u "hash"), (86, .class_ 108), (1, u "java/lang/Enum$EnumDesc"), (2, .class_ 112), (0, u "java/lang/constant/Constable"), (0, .class_ 114), (0, u "java/lang/Comparable"), (0, .class_ 116), (0, u "java/io/Serializable")] 87

/-- java/lang/Enum -/
def k5 : Class := { plain "java/lang/Enum" (some 0) with
  accessFlags := 1057
  interfaces := #[2, 3, 4]
  cf := some (fileOf pool5 2 #[.nestMembers #[106]] #[] 1057 12 #[111, 113, 115] #[{ accessFlags := 18, nameIndex := 5, descriptorIndex := 6, attributes := #[] }, { accessFlags := 18, nameIndex := 9, descriptorIndex := 10, attributes := #[] }, { accessFlags := 2, nameIndex := 19, descriptorIndex := 10, attributes := #[] }])
  fields := #[{ name := "name", type := (.object "java/lang/String"), accessFlags := 18, slot := 0, constantValue := 0 }, { name := "ordinal", type := .int, accessFlags := 18, slot := 1, constantValue := 0 }, { name := "hash", type := .int, accessFlags := 2, slot := 2, constantValue := 0 }]
  methods := #[]
  instanceTypes := #[(.object "java/lang/String"), .int, .int]
  staticTypes := #[]
  resolved := Array.replicate 204 none
  statics := none }

def pool6 : Array CpInfo := pool [(1, .class_ 2), (0, u "com/example/querent/querent/language/Arithmetic$Operator"), (0, .fieldref 1 4), (0, .nameAndType 5 6), (0, u "ADD"), (0, u "Lcom/example/querent/querent/language/Arithmetic$Operator;"), (0, .fieldref 1 8), (0, .nameAndType 9 6), (0, u "SUBTRACT"), (2, u "MULTIPLY"), (2, u "DIVIDE"), (2, u "$VALUES"), (0, u "[Lcom/example/querent/querent/language/Arithmetic$Operator;"), (6, .class_ 28), (1, u "java/lang/Enum"), (6, .fieldref 1 36), (0, .nameAndType 37 38), (0, u "symbol"), (0, u "Ljava/lang/String;"), (2, u "token"), (0, u "Lcom/example/querent/querent/language/TokenKind;"), (37, u "()Z"), (18, u "isAdditive"), (55, u "()Ljava/lang/String;"), (8, .class_ 165), (0, u "com/example/querent/querent/language/Arithmetic")] 2

def k6c0 : Code := { maxStack := 1, maxLocals := 1, code := prog_11_method_5_code, exceptionTable := #[], attributes := #[] }
def k6m0 : Method := { name := "symbol", desc := "()Ljava/lang/String;", sig := { parameters := [], returnType := some (.object "java/lang/String") }, accessFlags := 1, code := some k6c0 }
def k6c1 : Code := { maxStack := 2, maxLocals := 1, code := prog_11_method_6_code, exceptionTable := #[], attributes := #[] }
def k6m1 : Method := { name := "isAdditive", desc := "()Z", sig := { parameters := [], returnType := some .boolean }, accessFlags := 0, code := some k6c1 }
/-- com/example/querent/querent/language/Arithmetic$Operator -/
def k6 : Class := { plain "com/example/querent/querent/language/Arithmetic$Operator" (some 5) with
  accessFlags := 16433
  interfaces := #[]
  cf := some (fileOf pool6 1 #[.nestHost 164] #[{ accessFlags := 1, nameIndex := 37, descriptorIndex := 155, attributes := #[] }, { accessFlags := 0, nameIndex := 99, descriptorIndex := 80, attributes := #[] }] 16433 26 #[] #[{ accessFlags := 16409, nameIndex := 5, descriptorIndex := 6, attributes := #[] }, { accessFlags := 16409, nameIndex := 9, descriptorIndex := 6, attributes := #[] }, { accessFlags := 16409, nameIndex := 12, descriptorIndex := 6, attributes := #[] }, { accessFlags := 16409, nameIndex := 15, descriptorIndex := 6, attributes := #[] }, { accessFlags := 18, nameIndex := 37, descriptorIndex := 38, attributes := #[] }, { accessFlags := 18, nameIndex := 41, descriptorIndex := 42, attributes := #[] }, { accessFlags := 4122, nameIndex := 18, descriptorIndex := 19, attributes := #[] }])
  fields := #[{ name := "ADD", type := (.object "com/example/querent/querent/language/Arithmetic$Operator"), accessFlags := 16409, slot := 0, constantValue := 0 }, { name := "SUBTRACT", type := (.object "com/example/querent/querent/language/Arithmetic$Operator"), accessFlags := 16409, slot := 1, constantValue := 0 }, { name := "MULTIPLY", type := (.object "com/example/querent/querent/language/Arithmetic$Operator"), accessFlags := 16409, slot := 2, constantValue := 0 }, { name := "DIVIDE", type := (.object "com/example/querent/querent/language/Arithmetic$Operator"), accessFlags := 16409, slot := 3, constantValue := 0 }, { name := "symbol", type := (.object "java/lang/String"), accessFlags := 18, slot := 3, constantValue := 0 }, { name := "token", type := (.object "com/example/querent/querent/language/TokenKind"), accessFlags := 18, slot := 4, constantValue := 0 }, { name := "$VALUES", type := (.array (.object "com/example/querent/querent/language/Arithmetic$Operator")), accessFlags := 4122, slot := 4, constantValue := 0 }]
  methods := #[k6m0, k6m1]
  instanceTypes := #[(.object "java/lang/String"), .int, .int, (.object "java/lang/String"), (.object "com/example/querent/querent/language/TokenKind")]
  staticTypes := #[(.object "com/example/querent/querent/language/Arithmetic$Operator"), (.object "com/example/querent/querent/language/Arithmetic$Operator"), (.object "com/example/querent/querent/language/Arithmetic$Operator"), (.object "com/example/querent/querent/language/Arithmetic$Operator"), (.array (.object "com/example/querent/querent/language/Arithmetic$Operator"))]
  resolved := Array.replicate 168 none
  statics := some 0 }

def pool7 : Array CpInfo := pool [(2, .class_ 4), (1, u "java/lang/CharSequence"), (42, .class_ 48), (0, u "java/lang/CharSequence$1CodePointIterator"), (10, .class_ 60), (0, u "java/lang/CharSequence$1CharIterator"), (5, .class_ 67), (0, u "java/lang/Object")] 63

/-- java/lang/CharSequence -/
def k7 : Class := { plain "java/lang/CharSequence" (some 0) with
  accessFlags := 1537
  interfaces := #[]
  cf := some (fileOf pool7 2 #[.nestMembers #[47, 59]] #[] 1537 66 #[] #[])
  fields := #[]
  methods := #[]
  instanceTypes := #[]
  staticTypes := #[]
  resolved := Array.replicate 131 none
  statics := none }

def pool8 : Array CpInfo := pool [(1, .class_ 2), (0, u "java/lang/constant/ConstantDesc"), (0, .class_ 4), (0, u "java/lang/Object")] 32

/-- java/lang/constant/ConstantDesc -/
def k8 : Class := { plain "java/lang/constant/ConstantDesc" (some 0) with
  accessFlags := 1537
  interfaces := #[]
  cf := some (fileOf pool8 1 #[] #[] 1537 3 #[] #[])
  fields := #[]
  methods := #[]
  instanceTypes := #[]
  staticTypes := #[]
  resolved := Array.replicate 37 none
  statics := none }

def pool9 : Array CpInfo := pool [(2, .class_ 4), (1, u "java/lang/Object"), (0, u "<init>"), (0, u "()V"), (2, .fieldref 10 11), (0, .class_ 12), (0, .nameAndType 13 14), (0, u "java/lang/String"), (0, u "value"), (0, u "[B"), (0, .fieldref 10 16), (0, .nameAndType 17 18), (0, u "coder"), (0, u "B"), (2, u "hash"), (0, u "I"), (2, u "hashIsZero"), (0, u "Z"), (11, .fieldref 10 39), (0, .nameAndType 40 26), (0, u "COMPACT_STRINGS"), (66, .class_ 109), (1, u "java/lang/StringLatin1"), (431, .methodref 107 542), (0, .nameAndType 543 544), (0, u "equals"), (0, u "([B[B)Z"), (28, u "(Ljava/lang/Object;)Z"), (1, .class_ 576), (0, u "java/lang/CharSequence"), (22, u "CASE_INSENSITIVE_ORDER"), (0, u "Ljava/util/Comparator;"), (500, u "serialPersistentFields"), (0, u "[Ljava/io/ObjectStreamField;"), (0, .class_ 1104), (0, u "java/lang/String$CaseInsensitiveComparator"), (1, .class_ 1107), (0, u "java/io/Serializable"), (0, .class_ 1109), (0, u "java/lang/Comparable"), (0, .class_ 1111), (0, u "java/lang/constant/Constable"), (0, .class_ 1113), (0, u "java/lang/constant/ConstantDesc"), (2, u "serialVersionUID"), (0, u "J"), (3, u "REPL"), (0, u "C"), (2, u "LATIN1"), (1, u "UTF16")] 323

def k9m0 : Method := { name := "<init>", desc := "()V", sig := { parameters := [], returnType := none }, accessFlags := 1, code := none }
def k9c1 : Code := { maxStack := 2, maxLocals := 3, code := jdk_42_method_66_code, exceptionTable := #[], attributes := #[] }
def k9m1 : Method := { name := "equals", desc := "(Ljava/lang/Object;)Z", sig := { parameters := [(.object "java/lang/Object")], returnType := some .boolean }, accessFlags := 1, code := some k9c1 }
/-- java/lang/String -/
def k9 : Class := { plain "java/lang/String" (some 0) with
  accessFlags := 49
  interfaces := #[4, 3, 7, 2, 8]
  cf := some (fileOf pool9 10 #[.nestMembers #[1103]] #[{ accessFlags := 1, nameIndex := 5, descriptorIndex := 6, attributes := #[] }, { accessFlags := 1, nameIndex := 543, descriptorIndex := 573, attributes := #[] }] 49 2 #[1106, 1108, 575, 1110, 1112] #[{ accessFlags := 18, nameIndex := 13, descriptorIndex := 14, attributes := #[] }, { accessFlags := 18, nameIndex := 17, descriptorIndex := 18, attributes := #[] }, { accessFlags := 2, nameIndex := 21, descriptorIndex := 22, attributes := #[] }, { accessFlags := 2, nameIndex := 25, descriptorIndex := 26, attributes := #[] }, { accessFlags := 26, nameIndex := 1116, descriptorIndex := 1117, attributes := #[] }, { accessFlags := 24, nameIndex := 40, descriptorIndex := 26, attributes := #[] }, { accessFlags := 26, nameIndex := 1101, descriptorIndex := 1102, attributes := #[] }, { accessFlags := 26, nameIndex := 1121, descriptorIndex := 1122, attributes := #[] }, { accessFlags := 25, nameIndex := 599, descriptorIndex := 600, attributes := #[] }, { accessFlags := 24, nameIndex := 1125, descriptorIndex := 18, attributes := #[] }, { accessFlags := 24, nameIndex := 1127, descriptorIndex := 18, attributes := #[] }])
  fields := #[{ name := "value", type := (.array .byte), accessFlags := 18, slot := 0, constantValue := 0 }, { name := "coder", type := .byte, accessFlags := 18, slot := 1, constantValue := 0 }, { name := "hash", type := .int, accessFlags := 2, slot := 2, constantValue := 0 }, { name := "hashIsZero", type := .boolean, accessFlags := 2, slot := 3, constantValue := 0 }, { name := "serialVersionUID", type := .long, accessFlags := 26, slot := 0, constantValue := 0 }, { name := "COMPACT_STRINGS", type := .boolean, accessFlags := 24, slot := 1, constantValue := 0 }, { name := "serialPersistentFields", type := (.array (.object "java/io/ObjectStreamField")), accessFlags := 26, slot := 2, constantValue := 0 }, { name := "REPL", type := .char, accessFlags := 26, slot := 3, constantValue := 0 }, { name := "CASE_INSENSITIVE_ORDER", type := (.object "java/util/Comparator"), accessFlags := 25, slot := 4, constantValue := 0 }, { name := "LATIN1", type := .byte, accessFlags := 24, slot := 5, constantValue := 0 }, { name := "UTF16", type := .byte, accessFlags := 24, slot := 6, constantValue := 0 }]
  methods := #[k9m0, k9m1]
  instanceTypes := #[(.array .byte), .byte, .int, .boolean]
  staticTypes := #[.long, .boolean, (.array (.object "java/io/ObjectStreamField")), .char, (.object "java/util/Comparator"), .byte, .byte]
  resolved := Array.replicate 1451 none
  statics := some 1 }

def pool10 : Array CpInfo := pool [(4, .class_ 6), (1, u "java/lang/Object"), (0, u "<init>"), (0, u "()V"), (5, .class_ 16), (1, u "java/lang/StringLatin1"), (104, u "$assertionsDisabled"), (0, u "Z"), (98, .class_ 223), (1, u "java/lang/StringLatin1$LinesSpliterator"), (57, u "equals"), (0, u "([B[B)Z"), (107, .class_ 391), (0, u "java/lang/StringLatin1$CharsSpliterator")] 3

def k10m0 : Method := { name := "<init>", desc := "()V", sig := { parameters := [], returnType := none }, accessFlags := 0, code := none }
def k10c1 : Code := { maxStack := 3, maxLocals := 3, code := jdk_43_method_13_code, exceptionTable := #[], attributes := #[] }
def k10m1 : Method := { name := "equals", desc := "([B[B)Z", sig := { parameters := [(.array .byte), (.array .byte)], returnType := some .boolean }, accessFlags := 9, code := some k10c1 }
/-- java/lang/StringLatin1 -/
def k10 : Class := { plain "java/lang/StringLatin1" (some 0) with
  accessFlags := 48
  interfaces := #[]
  cf := some (fileOf pool10 14 #[.nestMembers #[390, 221]] #[{ accessFlags := 0, nameIndex := 7, descriptorIndex := 8, attributes := #[] }, { accessFlags := 9, nameIndex := 281, descriptorIndex := 282, attributes := #[] }] 48 4 #[] #[{ accessFlags := 4120, nameIndex := 121, descriptorIndex := 122, attributes := #[] }])
  fields := #[{ name := "$assertionsDisabled", type := .boolean, accessFlags := 4120, slot := 0, constantValue := 0 }]
  methods := #[k10m0, k10m1]
  instanceTypes := #[]
  staticTypes := #[.boolean]
  resolved := Array.replicate 395 none
  statics := none }

def pool11 : Array CpInfo := pool [(2, .class_ 4), (1, u "java/lang/Object"), (0, u "<init>"), (0, u "()V"), (17, .class_ 26), (1, u "jdk/internal/util/Preconditions"), (28, .class_ 56), (0, u "jdk/internal/util/Preconditions$4"), (57, .class_ 115), (0, u "jdk/internal/util/Preconditions$1"), (7, u "SIOOBE_FORMATTER"), (0, u "Ljava/util/function/BiFunction;"), (0, .class_ 126), (0, u "jdk/internal/util/Preconditions$2"), (3, u "AIOOBE_FORMATTER"), (0, .class_ 132), (0, u "jdk/internal/util/Preconditions$3"), (3, u "IOOBE_FORMATTER")] 57

def k11m0 : Method := { name := "<init>", desc := "()V", sig := { parameters := [], returnType := none }, accessFlags := 1, code := none }
/-- jdk/internal/util/Preconditions -/
def k11 : Class := { plain "jdk/internal/util/Preconditions" (some 0) with
  accessFlags := 33
  interfaces := #[]
  cf := some (fileOf pool11 24 #[.nestMembers #[55, 131, 125, 114]] #[{ accessFlags := 1, nameIndex := 5, descriptorIndex := 6, attributes := #[] }] 33 2 #[] #[{ accessFlags := 25, nameIndex := 123, descriptorIndex := 124, attributes := #[] }, { accessFlags := 25, nameIndex := 130, descriptorIndex := 124, attributes := #[] }, { accessFlags := 25, nameIndex := 136, descriptorIndex := 124, attributes := #[] }])
  fields := #[{ name := "SIOOBE_FORMATTER", type := (.object "java/util/function/BiFunction"), accessFlags := 25, slot := 0, constantValue := 0 }, { name := "AIOOBE_FORMATTER", type := (.object "java/util/function/BiFunction"), accessFlags := 25, slot := 1, constantValue := 0 }, { name := "IOOBE_FORMATTER", type := (.object "java/util/function/BiFunction"), accessFlags := 25, slot := 2, constantValue := 0 }]
  methods := #[k11m0]
  instanceTypes := #[]
  staticTypes := #[(.object "java/util/function/BiFunction"), (.object "java/util/function/BiFunction"), (.object "java/util/function/BiFunction")]
  resolved := Array.replicate 194 none
  statics := some 2 }

def pool12 : Array CpInfo := pool [(9, u "<init>"), (6, .class_ 18), (1, u "java/lang/Object"), (0, u "()V"), (1, .class_ 23), (1, u "jdk/internal/util/ArraysSupport"), (0, u "LOG2_ARRAY_LONG_INDEX_SCALE"), (0, u "I"), (2, u "U"), (0, u "Ljdk/internal/misc/Unsafe;"), (8, u "BIG_ENDIAN"), (0, u "Z"), (8, u "LOG2_BYTE_BIT_SIZE"), (4, u "LOG2_ARRAY_INT_INDEX_SCALE"), (54, u "JLA"), (0, u "Ljdk/internal/access/JavaLangAccess;"), (11, u "LOG2_ARRAY_BOOLEAN_INDEX_SCALE"), (9, u "LOG2_ARRAY_BYTE_INDEX_SCALE"), (5, u "LOG2_ARRAY_CHAR_INDEX_SCALE"), (5, u "LOG2_ARRAY_SHORT_INDEX_SCALE"), (18, u "LOG2_ARRAY_FLOAT_INDEX_SCALE"), (24, u "LOG2_ARRAY_DOUBLE_INDEX_SCALE"), (89, u "T_BOOLEAN"), (2, u "T_CHAR"), (1, u "T_FLOAT"), (1, u "T_DOUBLE"), (1, u "T_BYTE"), (1, u "T_SHORT"), (1, u "T_INT"), (1, u "T_LONG"), (1, u "SOFT_MAX_ARRAY_LENGTH")] 83

def k12m0 : Method := { name := "<init>", desc := "()V", sig := { parameters := [], returnType := none }, accessFlags := 2, code := none }
/-- jdk/internal/util/ArraysSupport -/
def k12 : Class := { plain "jdk/internal/util/ArraysSupport" (some 0) with
  accessFlags := 33
  interfaces := #[]
  cf := some (fileOf pool12 21 #[] #[{ accessFlags := 2, nameIndex := 9, descriptorIndex := 19, attributes := #[] }] 33 16 #[] #[{ accessFlags := 24, nameIndex := 28, descriptorIndex := 29, attributes := #[] }, { accessFlags := 26, nameIndex := 38, descriptorIndex := 39, attributes := #[] }, { accessFlags := 25, nameIndex := 121, descriptorIndex := 25, attributes := #[] }, { accessFlags := 25, nameIndex := 131, descriptorIndex := 25, attributes := #[] }, { accessFlags := 25, nameIndex := 137, descriptorIndex := 25, attributes := #[] }, { accessFlags := 25, nameIndex := 143, descriptorIndex := 25, attributes := #[] }, { accessFlags := 25, nameIndex := 53, descriptorIndex := 25, attributes := #[] }, { accessFlags := 25, nameIndex := 24, descriptorIndex := 25, attributes := #[] }, { accessFlags := 25, nameIndex := 162, descriptorIndex := 25, attributes := #[] }, { accessFlags := 25, nameIndex := 187, descriptorIndex := 25, attributes := #[] }, { accessFlags := 26, nameIndex := 48, descriptorIndex := 25, attributes := #[] }, { accessFlags := 25, nameIndex := 277, descriptorIndex := 25, attributes := #[] }, { accessFlags := 25, nameIndex := 280, descriptorIndex := 25, attributes := #[] }, { accessFlags := 25, nameIndex := 282, descriptorIndex := 25, attributes := #[] }, { accessFlags := 25, nameIndex := 284, descriptorIndex := 25, attributes := #[] }, { accessFlags := 25, nameIndex := 286, descriptorIndex := 25, attributes := #[] }, { accessFlags := 25, nameIndex := 288, descriptorIndex := 25, attributes := #[] }, { accessFlags := 25, nameIndex := 290, descriptorIndex := 25, attributes := #[] }, { accessFlags := 25, nameIndex := 292, descriptorIndex := 25, attributes := #[] }, { accessFlags := 26, nameIndex := 108, descriptorIndex := 109, attributes := #[] }, { accessFlags := 25, nameIndex := 294, descriptorIndex := 25, attributes := #[] }])
  fields := #[{ name := "U", type := (.object "jdk/internal/misc/Unsafe"), accessFlags := 24, slot := 0, constantValue := 0 }, { name := "BIG_ENDIAN", type := .boolean, accessFlags := 26, slot := 1, constantValue := 0 }, { name := "LOG2_ARRAY_BOOLEAN_INDEX_SCALE", type := .int, accessFlags := 25, slot := 2, constantValue := 0 }, { name := "LOG2_ARRAY_BYTE_INDEX_SCALE", type := .int, accessFlags := 25, slot := 3, constantValue := 0 }, { name := "LOG2_ARRAY_CHAR_INDEX_SCALE", type := .int, accessFlags := 25, slot := 4, constantValue := 0 }, { name := "LOG2_ARRAY_SHORT_INDEX_SCALE", type := .int, accessFlags := 25, slot := 5, constantValue := 0 }, { name := "LOG2_ARRAY_INT_INDEX_SCALE", type := .int, accessFlags := 25, slot := 6, constantValue := 0 }, { name := "LOG2_ARRAY_LONG_INDEX_SCALE", type := .int, accessFlags := 25, slot := 7, constantValue := 0 }, { name := "LOG2_ARRAY_FLOAT_INDEX_SCALE", type := .int, accessFlags := 25, slot := 8, constantValue := 0 }, { name := "LOG2_ARRAY_DOUBLE_INDEX_SCALE", type := .int, accessFlags := 25, slot := 9, constantValue := 0 }, { name := "LOG2_BYTE_BIT_SIZE", type := .int, accessFlags := 26, slot := 10, constantValue := 0 }, { name := "T_BOOLEAN", type := .int, accessFlags := 25, slot := 11, constantValue := 0 }, { name := "T_CHAR", type := .int, accessFlags := 25, slot := 12, constantValue := 0 }, { name := "T_FLOAT", type := .int, accessFlags := 25, slot := 13, constantValue := 0 }, { name := "T_DOUBLE", type := .int, accessFlags := 25, slot := 14, constantValue := 0 }, { name := "T_BYTE", type := .int, accessFlags := 25, slot := 15, constantValue := 0 }, { name := "T_SHORT", type := .int, accessFlags := 25, slot := 16, constantValue := 0 }, { name := "T_INT", type := .int, accessFlags := 25, slot := 17, constantValue := 0 }, { name := "T_LONG", type := .int, accessFlags := 25, slot := 18, constantValue := 0 }, { name := "JLA", type := (.object "jdk/internal/access/JavaLangAccess"), accessFlags := 26, slot := 19, constantValue := 0 }, { name := "SOFT_MAX_ARRAY_LENGTH", type := .int, accessFlags := 25, slot := 20, constantValue := 0 }]
  methods := #[k12m0]
  instanceTypes := #[]
  staticTypes := #[(.object "jdk/internal/misc/Unsafe"), .boolean, .int, .int, .int, .int, .int, .int, .int, .int, .int, .int, .int, .int, .int, .int, .int, .int, .int, (.object "jdk/internal/access/JavaLangAccess"), .int]
  resolved := Array.replicate 378 none
  statics := none }

def pool13 : Array CpInfo := pool [(1, u "java/lang/Cloneable"), (0, .class_ 1), (0, u "java/lang/Object"), (0, .class_ 3)] 3

/-- java/lang/Cloneable -/
def k13 : Class := { plain "java/lang/Cloneable" (some 0) with
  accessFlags := 1537
  interfaces := #[]
  cf := some (fileOf pool13 2 #[] #[] 1537 4 #[] #[])
  fields := #[]
  methods := #[]
  instanceTypes := #[]
  staticTypes := #[]
  resolved := Array.replicate 8 none
  statics := none }

/-- the primitive byte -/
def k14 : Class := { plain "byte" none with kind := .primitive 'B', accessFlags := 0x411 }
/-- [B -/
def k15 : Class := { plain "[B" (some 0) with kind := .array 14 .byte, interfaces := #[13, 4], accessFlags := 1041 }

/-- the primitive int -/
def k16 : Class := { plain "int" none with kind := .primitive 'I', accessFlags := 0x411 }
/-- [I -/
def k17 : Class := { plain "[I" (some 0) with kind := .array 16 .int, interfaces := #[13, 4], accessFlags := 1041 }

def heap : Heap := #[{ cls := 6, slots := #[.ref 5, .ref 8, .ref 11, .ref 14, .null], vm := .statics 6 },
  { cls := 9, slots := #[.long 0, .int 1, .null, .int 0, .null, .int 0, .int 0], vm := .statics 9 },
  { cls := 11, slots := #[.null, .null, .null], vm := .statics 11 },
  { cls := 15, slots := #[.int 43], vm := .none },
  { cls := 9, slots := #[.ref 3, .int 0, .int 0, .int 0], vm := .none },
  { cls := 6, slots := #[.null, .int 0, .int 0, .ref 4, .null], vm := .none },
  { cls := 15, slots := #[.int 45], vm := .none },
  { cls := 9, slots := #[.ref 6, .int 0, .int 0, .int 0], vm := .none },
  { cls := 6, slots := #[.null, .int 1, .int 0, .ref 7, .null], vm := .none },
  { cls := 15, slots := #[.int 42], vm := .none },
  { cls := 9, slots := #[.ref 9, .int 0, .int 0, .int 0], vm := .none },
  { cls := 6, slots := #[.null, .int 2, .int 0, .ref 10, .null], vm := .none },
  { cls := 15, slots := #[.int 47], vm := .none },
  { cls := 9, slots := #[.ref 12, .int 0, .int 0, .int 0], vm := .none },
  { cls := 6, slots := #[.null, .int 3, .int 0, .ref 13, .null], vm := .none }]
def classes : Array Class := #[k0, k1, k2, k3, k4, k5, k6, k7, k8, k9, k10, k11, k12, k13, k14, k15, k16, k17]
def interned : List (Array UInt16 × Addr) := []
def slotsUsed : Nat := 55
def theMethod : MethodId := ⟨1, 1⟩
def args0 : Array Value := #[.int 5]
def aboutOver (below : List Frame) : State where
  vm := { classes := classes, interned := interned.toArray }
  heap := heap
  slotsUsed := slotsUsed
  threads := #[{ frames := .invoking theMethod args0 :: below }]
def below0 : List Frame := [.native { method := ⟨0, 0⟩, args := #[] }]
def about1 : State := aboutOver below0
def p0 : Program := .bare "" "" ""
def e0 : Env := launch0.env 0 0 0
theorem w_frames : about1.frames = Frame.invoking theMethod args0 :: below0 := rfl
set_option maxRecDepth 65536 in
theorem w_args : argsFit about1.vm theMethod args0 = true := by decide +kernel
set_option maxRecDepth 65536 in
theorem w_heap : heapFits about1 = true := by decide +kernel
set_option maxRecDepth 65536 in
theorem w_runnable : about1.curStatus? = some .runnable := by decide +kernel
set_option maxRecDepth 65536 in
theorem w_alone : about1.alone = true := by decide +kernel
set_option maxRecDepth 65536 in
theorem w_named : about1.methodNamed? x = some theMethod := by decide +kernel
set_option maxRecDepth 65536 in
theorem w_hears : about1.hears theMethod below0 = true := by decide +kernel
set_option maxRecDepth 65536 in
theorem w_ripe : about1.ripe theMethod args0 below0 = true := by decide +kernel
theorem w_running : about1.status = .running := rfl
set_option maxRecDepth 65536 in
theorem w_room : about1.hasRoom e0.platform room_1 = true :=
  launch0.hasRoom_least _ room_1 (by decide +kernel) (by decide +kernel) (by decide +kernel) (by decide +kernel) (by decide +kernel) (by decide +kernel)
theorem allAtoms_all (ts : List Jvm.Cond) (a : Array Jvm.Value) (st : Jvm.State) : (allAtoms ts).before a st = ts.all (fun c => c.before a st) := by
  induction ts with
  | nil => rfl
  | cons c t ih =>
    show (Jvm.Cond.and c (allAtoms t)).before a st = _
    rw [Jvm.Cond.before_and, ih, List.all_cons]
def words1 : List Jvm.Cond := Jvm.Cond.code x code maxLocals ret :: tables_1
/-- a 'code' word, met by the world's own term for the bytes: nothing is compared byte by byte -/
theorem code_word {y : MethodName} {bytes : ByteArray} {mx : Nat} {rt : Option FieldType} {a : Array Value} {s : State} {m : MethodId} {meth : Method} {c : Code} (h1 : s.methodNamed? y = some m) (h2 : s.vm.method? m = some meth) (h3 : meth.code = some c) (h4 : c.code = bytes)
    (h5 : (c.maxLocals == mx && c.exceptionTable.isEmpty && decide (c.maxStack ≤ mostOperands) && decide (meth.sig.returnType = rt) && !meth.locks && decide (parseMethodDescriptor y.desc = some meth.sig)) = true) : (Jvm.Cond.code y bytes mx rt).before a s = true := by
  simp only [Bool.and_eq_true, beq_iff_eq, Bool.not_eq_true', decide_eq_true_eq] at h5
  obtain ⟨⟨⟨⟨⟨g1, g2⟩, g3⟩, g4⟩, g5⟩, g6⟩ := h5
  simp [Cond.before, Cond.holds, Cond.value, h1, h2, h3, h4, g1, g2, g3, g4, g5, g6]
def isCode : Jvm.Cond → Bool
  | .code _ _ _ _ => true
  | _ => false
theorem all_split {L : List Jvm.Cond} {P : Jvm.Cond → Bool} (h1 : L.all (fun c => isCode c || P c) = true) (h2 : ∀ c ∈ L.filter isCode, P c = true) : L.all P = true := by
  refine List.all_eq_true.mpr fun c hc => ?_
  have h := List.all_eq_true.mp h1 c hc
  rcases Bool.eq_false_or_eq_true (isCode c) with hi | hi
  · exact h2 c (List.mem_filter.mpr ⟨hc, hi⟩)
  · simpa [hi] using h
set_option maxRecDepth 65536 in
theorem w_c0 : (Jvm.Cond.code x code maxLocals ret).before args0 about1 = true := code_word (m := ⟨1, 1⟩) (meth := k1m1) (c := k1c1) (by decide +kernel) rfl rfl rfl (by decide +kernel)
set_option maxRecDepth 65536 in
theorem w_c1 : (Jvm.Cond.code ({ cls := "com/example/querent/querent/language/Arithmetic$Operator", name := "isAdditive", desc := "()Z" } : Jvm.MethodName) prog_11_method_6_code (1 : Nat) (Option.some Jvm.ClassFile.FieldType.boolean)).before args0 about1 = true := code_word (m := ⟨6, 1⟩) (meth := k6m1) (c := k6c1) (by decide +kernel) rfl rfl rfl (by decide +kernel)
set_option maxRecDepth 65536 in
theorem w_c2 : (Jvm.Cond.code ({ cls := "com/example/querent/querent/language/Arithmetic$Operator", name := "symbol", desc := "()Ljava/lang/String;" } : Jvm.MethodName) prog_11_method_5_code (1 : Nat) (Option.some (Jvm.ClassFile.FieldType.object "java/lang/String"))).before args0 about1 = true := code_word (m := ⟨6, 0⟩) (meth := k6m0) (c := k6c0) (by decide +kernel) rfl rfl rfl (by decide +kernel)
set_option maxRecDepth 65536 in
theorem w_c3 : (Jvm.Cond.code ({ cls := "java/lang/String", name := "equals", desc := "(Ljava/lang/Object;)Z" } : Jvm.MethodName) jdk_42_method_66_code (3 : Nat) (Option.some Jvm.ClassFile.FieldType.boolean)).before args0 about1 = true := code_word (m := ⟨9, 1⟩) (meth := k9m1) (c := k9c1) (by decide +kernel) rfl rfl rfl (by decide +kernel)
set_option maxRecDepth 65536 in
theorem w_c4 : (Jvm.Cond.code ({ cls := "java/lang/StringLatin1", name := "equals", desc := "([B[B)Z" } : Jvm.MethodName) jdk_43_method_13_code (3 : Nat) (Option.some Jvm.ClassFile.FieldType.boolean)).before args0 about1 = true := code_word (m := ⟨10, 1⟩) (meth := k10m1) (c := k10c1) (by decide +kernel) rfl rfl rfl (by decide +kernel)
def codes1 : List Jvm.Cond := [Jvm.Cond.code x code maxLocals ret, Jvm.Cond.code ({ cls := "com/example/querent/querent/language/Arithmetic$Operator", name := "isAdditive", desc := "()Z" } : Jvm.MethodName) prog_11_method_6_code (1 : Nat) (Option.some Jvm.ClassFile.FieldType.boolean), Jvm.Cond.code ({ cls := "com/example/querent/querent/language/Arithmetic$Operator", name := "symbol", desc := "()Ljava/lang/String;" } : Jvm.MethodName) prog_11_method_5_code (1 : Nat) (Option.some (Jvm.ClassFile.FieldType.object "java/lang/String")), Jvm.Cond.code ({ cls := "java/lang/String", name := "equals", desc := "(Ljava/lang/Object;)Z" } : Jvm.MethodName) jdk_42_method_66_code (3 : Nat) (Option.some Jvm.ClassFile.FieldType.boolean), Jvm.Cond.code ({ cls := "java/lang/StringLatin1", name := "equals", desc := "([B[B)Z" } : Jvm.MethodName) jdk_43_method_13_code (3 : Nat) (Option.some Jvm.ClassFile.FieldType.boolean)]
set_option maxRecDepth 65536 in
theorem codes_eq : words1.filter isCode = codes1 := rfl
theorem w_codes : ∀ c ∈ words1.filter isCode, c.before args0 about1 = true := by
  rw [codes_eq]
  intro c hc
  simp only [codes1, List.mem_cons, List.not_mem_nil, or_false] at hc
  rcases hc with rfl | rfl | rfl | rfl | rfl
  · exact w_c0
  · exact w_c1
  · exact w_c2
  · exact w_c3
  · exact w_c4
set_option maxRecDepth 65536 in
theorem w_t1 : (words1.take 24).all (fun c => isCode c || c.before args0 about1) = true := by decide +kernel
set_option maxRecDepth 65536 in
theorem w_t2 : (words1.drop 24).all (fun c => isCode c || c.before args0 about1) = true := by decide +kernel
theorem w_tables : (allAtoms (Jvm.Cond.code x code maxLocals ret :: tables_1)).before args0 about1 = true := by
  rw [allAtoms_all]
  show words1.all (fun c => c.before args0 about1) = true
  refine all_split ?_ w_codes
  rw [← List.take_append_drop 24 words1, List.all_append, w_t1, w_t2]
  rfl
set_option maxRecDepth 65536 in
theorem w_rest : rest_1_c.before args0 about1 = true := by decide +kernel
set_option maxRecDepth 65536 in
theorem w_case : (Jvm.Cond.and given_1 narrow_1).before args0 about1 = true := by decide +kernel
set_option maxRecDepth 65536 in
theorem w_consts : constsHeld consts_1 about1 := Jvm.Lit.constsHeldB_iff.mp (by decide +kernel)
theorem w_applies : (headSpec (Jvm.Cond.code x code maxLocals ret :: tables_1) room_1).applies x e0.platform about1 = true :=
  (Spec.applies_iff w_frames).mpr ⟨w_running, w_runnable, w_alone, w_named, w_hears, w_ripe, w_room, w_tables⟩
theorem atStart : AtStart classFile x code maxLocals ret World_1 tables_1 room_1 Calls_1 rest_1 Pre_1 launch0 p0 e0 about1 theMethod args0 below0 :=
  ⟨lists_1, trivial, launch0.admits_env _ _ _, launch0.least_env, fairChoices_fair.cas, fairChoices_fair.clock, w_frames, w_args, w_heap, w_applies, ⟨w_consts, trivial⟩, w_rest, w_case⟩
end start1
theorem witness_1 : WitnessClaimed_1 := ⟨start1.p0, start1.e0, start1.about1, start1.theMethod, start1.args0, start1.below0, start1.atStart⟩
end Jvm.Pilot.@@N@@
