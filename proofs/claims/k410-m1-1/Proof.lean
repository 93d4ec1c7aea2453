import JvmDerived
import JvmDerived.Pilot.@@N@@Statement
import JvmDerived.Pilot.@@N@@Code
set_option linter.unusedVariables false
set_option linter.unusedSimpArgs false
namespace Jvm.RoadKit
open Sem ClassFile Op Lib Jvm.Stand Jvm.Free Jvm.LawKit
section New
variable {p : Program} {l : Launch} {e : Env} {R : Room} {s : State} {m : MethodId} {args : Array Value} {below : List Frame} {meth : Method} {c : Code} {T : State} {locs : List Loc} {cells slots : Nat}
theorem retI (X : Stand p l e R s m args below meth c T locs cells slots) (hx : p.tables.exec = Jvm.exec) {pc : Nat} {Ls : Array Slot} {z : Int32} {rest : List Value} (hret : meth.sig.returnType = some .int) (hd : decode c.code pc = .ok (.ireturn, 1)) {fs : List Frame}
    (hl : ∀ (f : JFrame) (acts : List Action), f.method = m → f.locked = none → f.entered = [] → (doReturn e (T.setTop f) acts (some (.int z))).1 = T.setFrames fs) : Steps p.tables e below (T.setTop (mkF m pc Ls (.int z :: rest))) (T.setFrames fs) := by
  have hm' : T.vm.method? m = some meth := X.method'
  have hn : narrow .int (.int z) = .int z := rfl
  show Steps p.tables e below (T.setTop { method := m, pc := pc, locals := Ls, stack := _ :: rest, locked := none }) _
  jvm_step X.here [X.here.top, hx, hd, hm', hret, hn]
  first | (intro acts; rw [hl _ acts rfl rfl rfl]) | rw [hl _ _ rfl rfl rfl]
  exact Steps.refl _
end New
end Jvm.RoadKit
namespace Jvm.Pilot.@@N@@
open Jvm Jvm.ClassFile Sem Op Lib Jvm.Free Jvm.Stand Jvm.LawKit Jvm.RoadKit Bundle Jvm.Pilot.@@N@@.Jvm.D
def own_irem (a b : Int32) : Int32 := a - (a / b) * b
def own_lrem (a b : Int64) : Int64 := a - (a / b) * b
theorem d1_0 : decode prog_175_method_7_code 0 = .ok (.lload_n 2, 1) := by decide +kernel
theorem d1_1 : decode prog_175_method_7_code 1 = .ok (.lload 4, 2) := by decide +kernel
theorem d1_3 : decode prog_175_method_7_code 3 = .ok (.lload_n 0, 1) := by decide +kernel
theorem d1_4 : decode prog_175_method_7_code 4 = .ok (.lsub, 1) := by decide +kernel
theorem d1_5 : decode prog_175_method_7_code 5 = .ok (.lcmp, 1) := by decide +kernel
theorem d1_6 : decode prog_175_method_7_code 6 = .ok (.ifCond .lt 19, 3) := by decide +kernel
theorem d1_9 : decode prog_175_method_7_code 9 = .ok (.lload_n 2, 1) := by decide +kernel
theorem d1_10 : decode prog_175_method_7_code 10 = .ok (.ldc2_w 115, 3) := by decide +kernel
theorem d1_13 : decode prog_175_method_7_code 13 = .ok (.lload_n 0, 1) := by decide +kernel
theorem d1_14 : decode prog_175_method_7_code 14 = .ok (.lsub, 1) := by decide +kernel
theorem d1_15 : decode prog_175_method_7_code 15 = .ok (.lcmp, 1) := by decide +kernel
theorem d1_16 : decode prog_175_method_7_code 16 = .ok (.ifCond .gt 9, 3) := by decide +kernel
theorem d1_19 : decode prog_175_method_7_code 19 = .ok (.lload_n 0, 1) := by decide +kernel
theorem d1_20 : decode prog_175_method_7_code 20 = .ok (.lload_n 2, 1) := by decide +kernel
theorem d1_21 : decode prog_175_method_7_code 21 = .ok (.ladd, 1) := by decide +kernel
theorem d1_22 : decode prog_175_method_7_code 22 = .ok (.goto 6, 3) := by decide +kernel
theorem d1_25 : decode prog_175_method_7_code 25 = .ok (.ldc2_w 117, 3) := by decide +kernel
theorem d1_28 : decode prog_175_method_7_code 28 = .ok (.lreturn, 1) := by decide +kernel
theorem pn_1 : plainName "com/example/codicil/codicil/stored/TermVectorViews" = true := by first | (simp [plainName, overriddenIn]; done) | decide +kernel
theorem ef_rm1 (m : MethodId) (q0 : Int64) (q1 : Int64) (q2 : Int64) : entryFrame m #[(.long q0), (.long q1), (.long q2)] 6 = mkF m 0 #[.val (.long q0), .second, .val (.long q1), .second, .val (.long q2), .second] [] := by first | (simp [entryFrame, mkF, argsToLocals, Value.category]; done) | rfl
def own_f1 (q0 : Int64) (q1 : Int64) (q2 : Int64) : Int64 :=
  if q1 < (q2 - q0) then (-1 : Int64)
  else (if ((2147483647 : Int64) - q0) < q1 then (-1 : Int64)
  else (q0 + q1))
def rm1Q (Z : State) (q0 : Int64) (q1 : Int64) (q2 : Int64) (h0 : Heap) (n0 : Nat) (v : Option Value) (h : Heap) (L : List Loc) : Prop := v = some (.long (own_f1 q0 q1 q2)) ∧ Fr n0 L ∧ h = h0
set_option maxRecDepth 65536 in
set_option maxHeartbeats 40000000 in
theorem rm1 (l : Launch) (Z : State) (aw : Array Value) (hw : ∀ d ∈ tables_1, d.before aw Z = true) (ws : List Jvm.Cond) (q0 : Int64) (q1 : Int64) (q2 : Int64) (h0 : Heap) (n0 : Nat) (Z0 : n0 ≤ h0.size) :
    MetFree l (⟨"com/example/codicil/codicil/stored/TermVectorViews", "addWithinInt32", "(JJJ)J"⟩ : MethodName) (head1 (Jvm.Cond.code (⟨"com/example/codicil/codicil/stored/TermVectorViews", "addWithinInt32", "(JJJ)J"⟩ : MethodName) prog_175_method_7_code 6 (some .long) :: ws) ({ frames := 0, cells := 0, slots := 0, locals := 0 } : Room)) (fun a U => a = #[(.long q0), (.long q1), (.long q2)] ∧ Z.Warmed39 U.vm ∧ U.heap = h0) (fun _ _ _ _ _ => True) (fun _ U o U' => ∃ v L, o = .returned v ∧ rm1Q Z q0 q1 q2 h0 n0 v U'.heap L ∧ FrameEnd U o U' L ({ frames := 0, cells := 0, slots := 0, locals := 0 } : Room).cells ({ frames := 0, cells := 0, slots := 0, locals := 0 } : Room).slots) := by
  refine MetFree.of_bodySF (plainFor_of_name pn_1) hisR ?_
  intro p e s m args below meth c s₁ Bd hml0 hP hK
  obtain ⟨rfl, hZ, hh⟩ := hP
  have hx := Bd.exec
  have hby := Bd.bytes
  have hml : c.maxLocals = 6 := hml0
  have hown : s.vm.findClass "com/example/codicil/codicil/stored/TermVectorViews" = some m.cls := findClass_of_methodNamed Bd.named
  have hnm := (name_of_methodNamed Bd.named Bd.method).1
  have X0 : Stand p l e ({ frames := 0, cells := 0, slots := 0, locals := 0 } : Room) s m #[(.long q0), (.long q1), (.long q2)] below meth c s₁ [] 0 0 := Stand.of_body Bd
  have e0 : s₁.heap = h0 := by rw [← hh, Bd.state]; rfl
  have N0 := Fr.nil n0
  have pre0 : ∀ t, Steps p.tables e below (s₁.setTop (mkF m 0 #[.val (.long q0), .second, .val (.long q1), .second, .val (.long q2), .second] [])) t → Steps p.tables e below (s₁.setTop (entryFrame m #[(.long q0), (.long q1), (.long q2)] 6)) t := fun t k => castTop (ef_rm1 m q0 q1 q2) k
  have pre1 : ∀ t, Steps p.tables e below (s₁.setTop (mkF m 6 #[.val (.long q0), .second, .val (.long q1), .second, .val (.long q2), .second] [(.int (lcmpW q1 (q2 - q0)))])) t → Steps p.tables e below (s₁.setTop (entryFrame m #[(.long q0), (.long q1), (.long q2)] 6)) t := fun t k => pre0 t (by
    show Steps p.tables e below (s₁.setTop (mkF m 0 #[.val (.long q0), .second, .val (.long q1), .second, .val (.long q2), .second] [])) _
    refine XS.lloadN X0.here hx rfl (hb hby d1_0) rfl ?_
    show Steps p.tables e below (s₁.setTop (mkF m 1 #[.val (.long q0), .second, .val (.long q1), .second, .val (.long q2), .second] [(.long q1)])) _
    refine XS.lload X0.here hx rfl (hb hby d1_1) rfl ?_
    show Steps p.tables e below (s₁.setTop (mkF m 3 #[.val (.long q0), .second, .val (.long q1), .second, .val (.long q2), .second] [(.long q2), (.long q1)])) _
    refine XS.lloadN X0.here hx rfl (hb hby d1_3) rfl ?_
    show Steps p.tables e below (s₁.setTop (mkF m 4 #[.val (.long q0), .second, .val (.long q1), .second, .val (.long q2), .second] [(.long q0), (.long q2), (.long q1)])) _
    refine XS.lsub X0.here hx rfl (hb hby d1_4) rfl ?_
    show Steps p.tables e below (s₁.setTop (mkF m 5 #[.val (.long q0), .second, .val (.long q1), .second, .val (.long q2), .second] [(.long (q2 - q0)), (.long q1)])) _
    refine XS.lcmp X0.here hx rfl (hb hby d1_5) rfl ?_
    exact k)
  by_cases hc6_2 : q1 < (q2 - q0)
  · obtain ⟨fs, hr, hrun, hended, hW, hsame⟩ := X0.leave (v := some (.long (-1 : Int64))) (fun h => by rw [Bd.returns] at h; cases h)
    refine ⟨_, _, pre1 _ ?_, hrun, hended, _, _, rfl, ?_, ⟨_, rfl⟩, hW, hsame.mono (by decide) (by decide)⟩
    · show Steps p.tables e below (s₁.setTop (mkF m 6 #[.val (.long q0), .second, .val (.long q1), .second, .val (.long q2), .second] [(.int (lcmpW q1 (q2 - q0)))])) _
      refine XS.ifYes X0.here hx rfl (pc0 := 6) (pc' := 25) rfl (hb hby d1_6) rfl ((if0 _ _).trans (tlt ((lw_lt _ _).mpr hc6_2)).1) (by decide) (by decide) ?_
      show Steps p.tables e below (s₁.setTop (mkF m 25 #[.val (.long q0), .second, .val (.long q1), .second, .val (.long q2), .second] [])) _
      refine X0.ldc2Long hx hown (mvT hZ (hw _ (List.mem_of_getElem? (i := 11) rfl))) (g := (mkF m 25 #[.val (.long q0), .second, .val (.long q1), .second, .val (.long q2), .second] [])) rfl (hb hby d1_25) _ ?_
      show Steps p.tables e below (s₁.setTop (mkF m 28 #[.val (.long q0), .second, .val (.long q1), .second, .val (.long q2), .second] [(.long (-1 : Int64))])) _
      jvm_step X0.here [X0.here.top, hx, (hb hby d1_28), X0.method', Bd.returns, narrow]
      first | (intro acts; rw [hr _ acts rfl rfl rfl]) | rw [hr _ _ rfl rfl rfl]
      exact Steps.refl _
    · show rm1Q Z q0 q1 q2 h0 n0 _ s₁.heap _
      rw [e0]
      have hres : own_f1 q0 q1 q2 = (-1 : Int64) := by
        simp only [own_f1, if_pos hc6_2]
      exact ⟨by rw [hres], N0, rfl⟩
  · have pre3 : ∀ t, Steps p.tables e below (s₁.setTop (mkF m 16 #[.val (.long q0), .second, .val (.long q1), .second, .val (.long q2), .second] [(.int (lcmpW q1 ((2147483647 : Int64) - q0)))])) t → Steps p.tables e below (s₁.setTop (entryFrame m #[(.long q0), (.long q1), (.long q2)] 6)) t := fun t k => pre1 t (by
      show Steps p.tables e below (s₁.setTop (mkF m 6 #[.val (.long q0), .second, .val (.long q1), .second, .val (.long q2), .second] [(.int (lcmpW q1 (q2 - q0)))])) _
      refine XS.ifNo X0.here hx rfl (hb hby d1_6) rfl ((if0 _ _).trans (flt (fun q => hc6_2 ((lw_lt _ _).mp q))).1) ?_
      show Steps p.tables e below (s₁.setTop (mkF m 9 #[.val (.long q0), .second, .val (.long q1), .second, .val (.long q2), .second] [])) _
      refine XS.lloadN X0.here hx rfl (hb hby d1_9) rfl ?_
      show Steps p.tables e below (s₁.setTop (mkF m 10 #[.val (.long q0), .second, .val (.long q1), .second, .val (.long q2), .second] [(.long q1)])) _
      refine X0.ldc2Long hx hown (mvT hZ (hw _ (List.mem_of_getElem? (i := 8) rfl))) (g := (mkF m 10 #[.val (.long q0), .second, .val (.long q1), .second, .val (.long q2), .second] [(.long q1)])) rfl (hb hby d1_10) _ ?_
      show Steps p.tables e below (s₁.setTop (mkF m 13 #[.val (.long q0), .second, .val (.long q1), .second, .val (.long q2), .second] [(.long (2147483647 : Int64)), (.long q1)])) _
      refine XS.lloadN X0.here hx rfl (hb hby d1_13) rfl ?_
      show Steps p.tables e below (s₁.setTop (mkF m 14 #[.val (.long q0), .second, .val (.long q1), .second, .val (.long q2), .second] [(.long q0), (.long (2147483647 : Int64)), (.long q1)])) _
      refine XS.lsub X0.here hx rfl (hb hby d1_14) rfl ?_
      show Steps p.tables e below (s₁.setTop (mkF m 15 #[.val (.long q0), .second, .val (.long q1), .second, .val (.long q2), .second] [(.long ((2147483647 : Int64) - q0)), (.long q1)])) _
      refine XS.lcmp X0.here hx rfl (hb hby d1_15) rfl ?_
      exact k)
    by_cases hc16_4 : ((2147483647 : Int64) - q0) < q1
    · obtain ⟨fs, hr, hrun, hended, hW, hsame⟩ := X0.leave (v := some (.long (-1 : Int64))) (fun h => by rw [Bd.returns] at h; cases h)
      refine ⟨_, _, pre3 _ ?_, hrun, hended, _, _, rfl, ?_, ⟨_, rfl⟩, hW, hsame.mono (by decide) (by decide)⟩
      · show Steps p.tables e below (s₁.setTop (mkF m 16 #[.val (.long q0), .second, .val (.long q1), .second, .val (.long q2), .second] [(.int (lcmpW q1 ((2147483647 : Int64) - q0)))])) _
        refine XS.ifYes X0.here hx rfl (pc0 := 16) (pc' := 25) rfl (hb hby d1_16) rfl ((if0 _ _).trans (tlt ((lw_gt _ _).mpr hc16_4)).2.2.1) (by decide) (by decide) ?_
        show Steps p.tables e below (s₁.setTop (mkF m 25 #[.val (.long q0), .second, .val (.long q1), .second, .val (.long q2), .second] [])) _
        refine X0.ldc2Long hx hown (mvT hZ (hw _ (List.mem_of_getElem? (i := 11) rfl))) (g := (mkF m 25 #[.val (.long q0), .second, .val (.long q1), .second, .val (.long q2), .second] [])) rfl (hb hby d1_25) _ ?_
        show Steps p.tables e below (s₁.setTop (mkF m 28 #[.val (.long q0), .second, .val (.long q1), .second, .val (.long q2), .second] [(.long (-1 : Int64))])) _
        jvm_step X0.here [X0.here.top, hx, (hb hby d1_28), X0.method', Bd.returns, narrow]
        first | (intro acts; rw [hr _ acts rfl rfl rfl]) | rw [hr _ _ rfl rfl rfl]
        exact Steps.refl _
      · show rm1Q Z q0 q1 q2 h0 n0 _ s₁.heap _
        rw [e0]
        have hres : own_f1 q0 q1 q2 = (-1 : Int64) := by
          simp only [own_f1, if_neg hc6_2, if_pos hc16_4]
        exact ⟨by rw [hres], N0, rfl⟩
    · obtain ⟨fs, hr, hrun, hended, hW, hsame⟩ := X0.leave (v := some (.long (q0 + q1))) (fun h => by rw [Bd.returns] at h; cases h)
      refine ⟨_, _, pre3 _ ?_, hrun, hended, _, _, rfl, ?_, ⟨_, rfl⟩, hW, hsame.mono (by decide) (by decide)⟩
      · show Steps p.tables e below (s₁.setTop (mkF m 16 #[.val (.long q0), .second, .val (.long q1), .second, .val (.long q2), .second] [(.int (lcmpW q1 ((2147483647 : Int64) - q0)))])) _
        refine XS.ifNo X0.here hx rfl (hb hby d1_16) rfl ((if0 _ _).trans (flt (fun q => hc16_4 ((lw_gt _ _).mp q))).2.2.1) ?_
        show Steps p.tables e below (s₁.setTop (mkF m 19 #[.val (.long q0), .second, .val (.long q1), .second, .val (.long q2), .second] [])) _
        refine XS.lloadN X0.here hx rfl (hb hby d1_19) rfl ?_
        show Steps p.tables e below (s₁.setTop (mkF m 20 #[.val (.long q0), .second, .val (.long q1), .second, .val (.long q2), .second] [(.long q0)])) _
        refine XS.lloadN X0.here hx rfl (hb hby d1_20) rfl ?_
        show Steps p.tables e below (s₁.setTop (mkF m 21 #[.val (.long q0), .second, .val (.long q1), .second, .val (.long q2), .second] [(.long q1), (.long q0)])) _
        refine XS.ladd X0.here hx rfl (hb hby d1_21) rfl ?_
        show Steps p.tables e below (s₁.setTop (mkF m 22 #[.val (.long q0), .second, .val (.long q1), .second, .val (.long q2), .second] [(.long (q0 + q1))])) _
        refine XS.goto X0.here hx rfl (pc0 := 22) (pc' := 28) rfl (hb hby d1_22) (by decide) (by decide) ?_
        show Steps p.tables e below (s₁.setTop (mkF m 28 #[.val (.long q0), .second, .val (.long q1), .second, .val (.long q2), .second] [(.long (q0 + q1))])) _
        jvm_step X0.here [X0.here.top, hx, (hb hby d1_28), X0.method', Bd.returns, narrow]
        first | (intro acts; rw [hr _ acts rfl rfl rfl]) | rw [hr _ _ rfl rfl rfl]
        exact Steps.refl _
      · show rm1Q Z q0 q1 q2 h0 n0 _ s₁.heap _
        rw [e0]
        have hres : own_f1 q0 q1 q2 = (q0 + q1) := by
          simp only [own_f1, if_neg hc6_2, if_neg hc16_4]
        exact ⟨by rw [hres], N0, rfl⟩
theorem own_nz (a : Int32) : ((a &&& (2147483647 : Int32)).toInt64 + (1 : Int64)) ≠ 0 := by
  intro q
  have q := congrArg Int64.toInt q
  have h1 := c_mask a 2147483647 31 (by decide) (by decide)
  have h2 := c_ladd (a &&& (2147483647 : Int32)).toInt64 1
  rw [q, c_i2l, h1, show (1 : Int64).toInt = 1 by decide, show (0 : Int64).toInt = 0 by decide] at h2
  omega
theorem pn_0 : plainName "com/example/codicil/codicil/stored/TermVectorViewsAddWithinInt32PinLaw" = true := by first | (simp [plainName, overriddenIn]; done) | decide +kernel
theorem pd_rm0_0 : parseMethodDescriptor "(JJJ)J" = some ⟨[.long, .long, .long], some .long⟩ := by decide +kernel
theorem ef_rm0 (m : MethodId) (p0 : Int32) (p1 : Int32) (q2 : Int64) (p3 : Int32) : entryFrame m #[(.int p0), (.int p1), (.long q2), (.int p3)] maxLocals = mkF m 0 #[.val (.int p0), .val (.int p1), .val (.long q2), .second, .val (.int p3), .unset, .unset, .unset, .unset, .unset, .unset, .unset, .unset, .unset, .unset, .unset] [] := by first | (simp [entryFrame, mkF, argsToLocals, Value.category, maxLocals]; done) | rfl
def own_step (p0 : Int32) (p1 : Int32) (q2 : Int64) (p3 : Int32) : Int64 :=
  if (p3 &&& (3 : Int32)) = (1 : Int32) then (((own_lrem ((p1 &&& (2147483647 : Int32)).toInt64) (((p0 &&& (2147483647 : Int32)).toInt64) + (1 : Int64))) - ((p0 &&& (2147483647 : Int32)).toInt64)) + (own_lrem q2 (3 : Int64)))
  else (if (p3 &&& (3 : Int32)) = (2 : Int32) then (((2147483647 : Int64) - ((p0 &&& (2147483647 : Int32)).toInt64)) + (own_lrem q2 (3 : Int64)))
  else q2)
def own_exp (p0 : Int32) (p1 : Int32) (q2 : Int64) (p3 : Int32) : Int64 :=
  if (own_step p0 p1 q2 p3) < (-4294967296 : Int64) then (-1 : Int64)
  else (if (4294967296 : Int64) < (own_step p0 p1 q2 p3) then (-1 : Int64)
  else (if (((p0 &&& (2147483647 : Int32)).toInt64) + (own_step p0 p1 q2 p3)) < (own_lrem ((p1 &&& (2147483647 : Int32)).toInt64) (((p0 &&& (2147483647 : Int32)).toInt64) + (1 : Int64))) then (-1 : Int64)
  else (if (2147483647 : Int64) < (((p0 &&& (2147483647 : Int32)).toInt64) + (own_step p0 p1 q2 p3)) then (-1 : Int64)
  else (((p0 &&& (2147483647 : Int32)).toInt64) + (own_step p0 p1 q2 p3)))))
def own_f0 (p0 : Int32) (p1 : Int32) (q2 : Int64) (p3 : Int32) : Int32 :=
  if (own_f1 ((p0 &&& (2147483647 : Int32)).toInt64) (own_step p0 p1 q2 p3) (own_lrem ((p1 &&& (2147483647 : Int32)).toInt64) (((p0 &&& (2147483647 : Int32)).toInt64) + (1 : Int64)))) = (own_exp p0 p1 q2 p3) then (1 : Int32)
  else (0 : Int32)
def rm0Q (Z : State) (p0 : Int32) (p1 : Int32) (q2 : Int64) (p3 : Int32) (h0 : Heap) (n0 : Nat) (v : Option Value) (h : Heap) (L : List Loc) : Prop := v = some (.int (own_f0 p0 p1 q2 p3)) ∧ Fr n0 L ∧ h = h0
set_option maxRecDepth 65536 in
set_option maxHeartbeats 40000000 in
theorem rm0 (l : Launch) (Z : State) (aw : Array Value) (hw : ∀ d ∈ tables_1, d.before aw Z = true) (ws : List Jvm.Cond) (p0 : Int32) (p1 : Int32) (q2 : Int64) (p3 : Int32) (h0 : Heap) (n0 : Nat) (Z0 : n0 ≤ h0.size) :
    MetFree l x (head1 (Jvm.Cond.code x code maxLocals ret :: ws) room_1) (fun a U => a = #[(.int p0), (.int p1), (.long q2), (.int p3)] ∧ Z.Warmed39 U.vm ∧ U.heap = h0) (fun _ _ _ _ _ => True) (fun _ U o U' => ∃ v L, o = .returned v ∧ rm0Q Z p0 p1 q2 p3 h0 n0 v U'.heap L ∧ FrameEnd U o U' L room_1.cells room_1.slots) := by
  refine MetFree.of_bodySF (plainFor_of_name pn_0) hisR ?_
  intro p e s m args below meth c s₁ Bd hml0 hP hK
  obtain ⟨rfl, hZ, hh⟩ := hP
  have hx := Bd.exec
  have hby := Bd.bytes
  have hml : c.maxLocals = 16 := hml0
  have hown : s.vm.findClass "com/example/codicil/codicil/stored/TermVectorViewsAddWithinInt32PinLaw" = some m.cls := findClass_of_methodNamed Bd.named
  have hnm := (name_of_methodNamed Bd.named Bd.method).1
  have X0 : Stand p l e room_1 s m #[(.int p0), (.int p1), (.long q2), (.int p3)] below meth c s₁ [] 0 0 := Stand.of_body Bd
  have e0 : s₁.heap = h0 := by rw [← hh, Bd.state]; rfl
  have N0 := Fr.nil n0
  have pre0 : ∀ t, Steps p.tables e below (s₁.setTop (mkF m 0 #[.val (.int p0), .val (.int p1), .val (.long q2), .second, .val (.int p3), .unset, .unset, .unset, .unset, .unset, .unset, .unset, .unset, .unset, .unset, .unset] [])) t → Steps p.tables e below (s₁.setTop (entryFrame m #[(.int p0), (.int p1), (.long q2), (.int p3)] maxLocals)) t := fun t k => castTop (ef_rm0 m p0 p1 q2 p3) k
  have pre1 : ∀ t, Steps p.tables e below (s₁.setTop (mkF m 28 #[.val (.int p0), .val (.int p1), .val (.long q2), .second, .val (.int p3), .val (.long ((p0 &&& (2147483647 : Int32)).toInt64)), .second, .val (.long (own_lrem ((p1 &&& (2147483647 : Int32)).toInt64) (((p0 &&& (2147483647 : Int32)).toInt64) + (1 : Int64)))), .second, .val (.int (p3 &&& (3 : Int32))), .unset, .unset, .unset, .unset, .unset, .unset] [(.int (1 : Int32)), (.int (p3 &&& (3 : Int32)))])) t → Steps p.tables e below (s₁.setTop (entryFrame m #[(.int p0), (.int p1), (.long q2), (.int p3)] maxLocals)) t := fun t k => pre0 t (by
    show Steps p.tables e below (s₁.setTop (mkF m 0 #[.val (.int p0), .val (.int p1), .val (.long q2), .second, .val (.int p3), .unset, .unset, .unset, .unset, .unset, .unset, .unset, .unset, .unset, .unset, .unset] [])) _
    refine XS.iloadN X0.here hx rfl (hb hby at_0) rfl ?_
    show Steps p.tables e below (s₁.setTop (mkF m 1 #[.val (.int p0), .val (.int p1), .val (.long q2), .second, .val (.int p3), .unset, .unset, .unset, .unset, .unset, .unset, .unset, .unset, .unset, .unset, .unset] [(.int p0)])) _
    refine X0.ldcInt hx hown (mvT hZ (hw _ (List.mem_of_getElem? (i := 0) rfl))) (g := (mkF m 1 #[.val (.int p0), .val (.int p1), .val (.long q2), .second, .val (.int p3), .unset, .unset, .unset, .unset, .unset, .unset, .unset, .unset, .unset, .unset, .unset] [(.int p0)])) rfl (hb hby at_1) _ ?_
    show Steps p.tables e below (s₁.setTop (mkF m 3 #[.val (.int p0), .val (.int p1), .val (.long q2), .second, .val (.int p3), .unset, .unset, .unset, .unset, .unset, .unset, .unset, .unset, .unset, .unset, .unset] [(.int (2147483647 : Int32)), (.int p0)])) _
    refine XS.iand X0.here hx rfl (hb hby at_3) rfl ?_
    show Steps p.tables e below (s₁.setTop (mkF m 4 #[.val (.int p0), .val (.int p1), .val (.long q2), .second, .val (.int p3), .unset, .unset, .unset, .unset, .unset, .unset, .unset, .unset, .unset, .unset, .unset] [(.int (p0 &&& (2147483647 : Int32)))])) _
    refine XS.i2l X0.here hx rfl (hb hby at_4) rfl ?_
    show Steps p.tables e below (s₁.setTop (mkF m 5 #[.val (.int p0), .val (.int p1), .val (.long q2), .second, .val (.int p3), .unset, .unset, .unset, .unset, .unset, .unset, .unset, .unset, .unset, .unset, .unset] [(.long ((p0 &&& (2147483647 : Int32)).toInt64))])) _
    refine XS.lstore X0.here hx rfl (hb hby at_5) rfl (l' := #[.val (.int p0), .val (.int p1), .val (.long q2), .second, .val (.int p3), .val (.long ((p0 &&& (2147483647 : Int32)).toInt64)), .second, .unset, .unset, .unset, .unset, .unset, .unset, .unset, .unset, .unset]) rfl ?_
    show Steps p.tables e below (s₁.setTop (mkF m 7 #[.val (.int p0), .val (.int p1), .val (.long q2), .second, .val (.int p3), .val (.long ((p0 &&& (2147483647 : Int32)).toInt64)), .second, .unset, .unset, .unset, .unset, .unset, .unset, .unset, .unset, .unset] [])) _
    refine XS.iloadN X0.here hx rfl (hb hby at_7) rfl ?_
    show Steps p.tables e below (s₁.setTop (mkF m 8 #[.val (.int p0), .val (.int p1), .val (.long q2), .second, .val (.int p3), .val (.long ((p0 &&& (2147483647 : Int32)).toInt64)), .second, .unset, .unset, .unset, .unset, .unset, .unset, .unset, .unset, .unset] [(.int p1)])) _
    refine X0.ldcInt hx hown (mvT hZ (hw _ (List.mem_of_getElem? (i := 0) rfl))) (g := (mkF m 8 #[.val (.int p0), .val (.int p1), .val (.long q2), .second, .val (.int p3), .val (.long ((p0 &&& (2147483647 : Int32)).toInt64)), .second, .unset, .unset, .unset, .unset, .unset, .unset, .unset, .unset, .unset] [(.int p1)])) rfl (hb hby at_8) _ ?_
    show Steps p.tables e below (s₁.setTop (mkF m 10 #[.val (.int p0), .val (.int p1), .val (.long q2), .second, .val (.int p3), .val (.long ((p0 &&& (2147483647 : Int32)).toInt64)), .second, .unset, .unset, .unset, .unset, .unset, .unset, .unset, .unset, .unset] [(.int (2147483647 : Int32)), (.int p1)])) _
    refine XS.iand X0.here hx rfl (hb hby at_10) rfl ?_
    show Steps p.tables e below (s₁.setTop (mkF m 11 #[.val (.int p0), .val (.int p1), .val (.long q2), .second, .val (.int p3), .val (.long ((p0 &&& (2147483647 : Int32)).toInt64)), .second, .unset, .unset, .unset, .unset, .unset, .unset, .unset, .unset, .unset] [(.int (p1 &&& (2147483647 : Int32)))])) _
    refine XS.i2l X0.here hx rfl (hb hby at_11) rfl ?_
    show Steps p.tables e below (s₁.setTop (mkF m 12 #[.val (.int p0), .val (.int p1), .val (.long q2), .second, .val (.int p3), .val (.long ((p0 &&& (2147483647 : Int32)).toInt64)), .second, .unset, .unset, .unset, .unset, .unset, .unset, .unset, .unset, .unset] [(.long ((p1 &&& (2147483647 : Int32)).toInt64))])) _
    refine XS.lload X0.here hx rfl (hb hby at_12) rfl ?_
    show Steps p.tables e below (s₁.setTop (mkF m 14 #[.val (.int p0), .val (.int p1), .val (.long q2), .second, .val (.int p3), .val (.long ((p0 &&& (2147483647 : Int32)).toInt64)), .second, .unset, .unset, .unset, .unset, .unset, .unset, .unset, .unset, .unset] [(.long ((p0 &&& (2147483647 : Int32)).toInt64)), (.long ((p1 &&& (2147483647 : Int32)).toInt64))])) _
    refine XS.lconst X0.here hx rfl (hb hby at_14) ?_
    show Steps p.tables e below (s₁.setTop (mkF m 15 #[.val (.int p0), .val (.int p1), .val (.long q2), .second, .val (.int p3), .val (.long ((p0 &&& (2147483647 : Int32)).toInt64)), .second, .unset, .unset, .unset, .unset, .unset, .unset, .unset, .unset, .unset] [(.long (1 : Int64)), (.long ((p0 &&& (2147483647 : Int32)).toInt64)), (.long ((p1 &&& (2147483647 : Int32)).toInt64))])) _
    refine XS.ladd X0.here hx rfl (hb hby at_15) rfl ?_
    show Steps p.tables e below (s₁.setTop (mkF m 16 #[.val (.int p0), .val (.int p1), .val (.long q2), .second, .val (.int p3), .val (.long ((p0 &&& (2147483647 : Int32)).toInt64)), .second, .unset, .unset, .unset, .unset, .unset, .unset, .unset, .unset, .unset] [(.long (((p0 &&& (2147483647 : Int32)).toInt64) + (1 : Int64))), (.long ((p1 &&& (2147483647 : Int32)).toInt64))])) _
    refine XS.lrem X0.here hx rfl (hb hby at_16) rfl (own_nz p0) ?_
    show Steps p.tables e below (s₁.setTop (mkF m 17 #[.val (.int p0), .val (.int p1), .val (.long q2), .second, .val (.int p3), .val (.long ((p0 &&& (2147483647 : Int32)).toInt64)), .second, .unset, .unset, .unset, .unset, .unset, .unset, .unset, .unset, .unset] [(.long (own_lrem ((p1 &&& (2147483647 : Int32)).toInt64) (((p0 &&& (2147483647 : Int32)).toInt64) + (1 : Int64))))])) _
    refine XS.lstore X0.here hx rfl (hb hby at_17) rfl (l' := #[.val (.int p0), .val (.int p1), .val (.long q2), .second, .val (.int p3), .val (.long ((p0 &&& (2147483647 : Int32)).toInt64)), .second, .val (.long (own_lrem ((p1 &&& (2147483647 : Int32)).toInt64) (((p0 &&& (2147483647 : Int32)).toInt64) + (1 : Int64)))), .second, .unset, .unset, .unset, .unset, .unset, .unset, .unset]) rfl ?_
    show Steps p.tables e below (s₁.setTop (mkF m 19 #[.val (.int p0), .val (.int p1), .val (.long q2), .second, .val (.int p3), .val (.long ((p0 &&& (2147483647 : Int32)).toInt64)), .second, .val (.long (own_lrem ((p1 &&& (2147483647 : Int32)).toInt64) (((p0 &&& (2147483647 : Int32)).toInt64) + (1 : Int64)))), .second, .unset, .unset, .unset, .unset, .unset, .unset, .unset] [])) _
    refine XS.iload X0.here hx rfl (hb hby at_19) rfl ?_
    show Steps p.tables e below (s₁.setTop (mkF m 21 #[.val (.int p0), .val (.int p1), .val (.long q2), .second, .val (.int p3), .val (.long ((p0 &&& (2147483647 : Int32)).toInt64)), .second, .val (.long (own_lrem ((p1 &&& (2147483647 : Int32)).toInt64) (((p0 &&& (2147483647 : Int32)).toInt64) + (1 : Int64)))), .second, .unset, .unset, .unset, .unset, .unset, .unset, .unset] [(.int p3)])) _
    refine XS.iconst X0.here hx rfl (hb hby at_21) ?_
    show Steps p.tables e below (s₁.setTop (mkF m 22 #[.val (.int p0), .val (.int p1), .val (.long q2), .second, .val (.int p3), .val (.long ((p0 &&& (2147483647 : Int32)).toInt64)), .second, .val (.long (own_lrem ((p1 &&& (2147483647 : Int32)).toInt64) (((p0 &&& (2147483647 : Int32)).toInt64) + (1 : Int64)))), .second, .unset, .unset, .unset, .unset, .unset, .unset, .unset] [(.int (3 : Int32)), (.int p3)])) _
    refine XS.iand X0.here hx rfl (hb hby at_22) rfl ?_
    show Steps p.tables e below (s₁.setTop (mkF m 23 #[.val (.int p0), .val (.int p1), .val (.long q2), .second, .val (.int p3), .val (.long ((p0 &&& (2147483647 : Int32)).toInt64)), .second, .val (.long (own_lrem ((p1 &&& (2147483647 : Int32)).toInt64) (((p0 &&& (2147483647 : Int32)).toInt64) + (1 : Int64)))), .second, .unset, .unset, .unset, .unset, .unset, .unset, .unset] [(.int (p3 &&& (3 : Int32)))])) _
    refine XS.istore X0.here hx rfl (hb hby at_23) rfl (l' := #[.val (.int p0), .val (.int p1), .val (.long q2), .second, .val (.int p3), .val (.long ((p0 &&& (2147483647 : Int32)).toInt64)), .second, .val (.long (own_lrem ((p1 &&& (2147483647 : Int32)).toInt64) (((p0 &&& (2147483647 : Int32)).toInt64) + (1 : Int64)))), .second, .val (.int (p3 &&& (3 : Int32))), .unset, .unset, .unset, .unset, .unset, .unset]) rfl ?_
    show Steps p.tables e below (s₁.setTop (mkF m 25 #[.val (.int p0), .val (.int p1), .val (.long q2), .second, .val (.int p3), .val (.long ((p0 &&& (2147483647 : Int32)).toInt64)), .second, .val (.long (own_lrem ((p1 &&& (2147483647 : Int32)).toInt64) (((p0 &&& (2147483647 : Int32)).toInt64) + (1 : Int64)))), .second, .val (.int (p3 &&& (3 : Int32))), .unset, .unset, .unset, .unset, .unset, .unset] [])) _
    refine XS.iload X0.here hx rfl (hb hby at_25) rfl ?_
    show Steps p.tables e below (s₁.setTop (mkF m 27 #[.val (.int p0), .val (.int p1), .val (.long q2), .second, .val (.int p3), .val (.long ((p0 &&& (2147483647 : Int32)).toInt64)), .second, .val (.long (own_lrem ((p1 &&& (2147483647 : Int32)).toInt64) (((p0 &&& (2147483647 : Int32)).toInt64) + (1 : Int64)))), .second, .val (.int (p3 &&& (3 : Int32))), .unset, .unset, .unset, .unset, .unset, .unset] [(.int (p3 &&& (3 : Int32)))])) _
    refine XS.iconst X0.here hx rfl (hb hby at_27) ?_
    exact k)
  have pre2 : ∀ t, Steps p.tables e below (s₁.setTop (mkF m 73 #[.val (.int p0), .val (.int p1), .val (.long q2), .second, .val (.int p3), .val (.long ((p0 &&& (2147483647 : Int32)).toInt64)), .second, .val (.long (own_lrem ((p1 &&& (2147483647 : Int32)).toInt64) (((p0 &&& (2147483647 : Int32)).toInt64) + (1 : Int64)))), .second, .val (.int (p3 &&& (3 : Int32))), .val (.long (own_step p0 p1 q2 p3)), .second, .unset, .unset, .unset, .unset] [])) t → Steps p.tables e below (s₁.setTop (entryFrame m #[(.int p0), (.int p1), (.long q2), (.int p3)] maxLocals)) t := by
    by_cases hc28_3 : (p3 &&& (3 : Int32)) = (1 : Int32)
    · rw [show (own_step p0 p1 q2 p3) = (((own_lrem ((p1 &&& (2147483647 : Int32)).toInt64) (((p0 &&& (2147483647 : Int32)).toInt64) + (1 : Int64))) - ((p0 &&& (2147483647 : Int32)).toInt64)) + (own_lrem q2 (3 : Int64))) from by simp only [own_step, if_pos hc28_3]]
      exact fun t k => pre1 t (by
        show Steps p.tables e below (s₁.setTop (mkF m 28 #[.val (.int p0), .val (.int p1), .val (.long q2), .second, .val (.int p3), .val (.long ((p0 &&& (2147483647 : Int32)).toInt64)), .second, .val (.long (own_lrem ((p1 &&& (2147483647 : Int32)).toInt64) (((p0 &&& (2147483647 : Int32)).toInt64) + (1 : Int64)))), .second, .val (.int (p3 &&& (3 : Int32))), .unset, .unset, .unset, .unset, .unset, .unset] [(.int (1 : Int32)), (.int (p3 &&& (3 : Int32)))])) _
        refine XS.icmpNo X0.here hx rfl (hb hby at_28) rfl (teq hc28_3).2 ?_
        show Steps p.tables e below (s₁.setTop (mkF m 31 #[.val (.int p0), .val (.int p1), .val (.long q2), .second, .val (.int p3), .val (.long ((p0 &&& (2147483647 : Int32)).toInt64)), .second, .val (.long (own_lrem ((p1 &&& (2147483647 : Int32)).toInt64) (((p0 &&& (2147483647 : Int32)).toInt64) + (1 : Int64)))), .second, .val (.int (p3 &&& (3 : Int32))), .unset, .unset, .unset, .unset, .unset, .unset] [])) _
        refine XS.lload X0.here hx rfl (hb hby at_31) rfl ?_
        show Steps p.tables e below (s₁.setTop (mkF m 33 #[.val (.int p0), .val (.int p1), .val (.long q2), .second, .val (.int p3), .val (.long ((p0 &&& (2147483647 : Int32)).toInt64)), .second, .val (.long (own_lrem ((p1 &&& (2147483647 : Int32)).toInt64) (((p0 &&& (2147483647 : Int32)).toInt64) + (1 : Int64)))), .second, .val (.int (p3 &&& (3 : Int32))), .unset, .unset, .unset, .unset, .unset, .unset] [(.long (own_lrem ((p1 &&& (2147483647 : Int32)).toInt64) (((p0 &&& (2147483647 : Int32)).toInt64) + (1 : Int64))))])) _
        refine XS.lload X0.here hx rfl (hb hby at_33) rfl ?_
        show Steps p.tables e below (s₁.setTop (mkF m 35 #[.val (.int p0), .val (.int p1), .val (.long q2), .second, .val (.int p3), .val (.long ((p0 &&& (2147483647 : Int32)).toInt64)), .second, .val (.long (own_lrem ((p1 &&& (2147483647 : Int32)).toInt64) (((p0 &&& (2147483647 : Int32)).toInt64) + (1 : Int64)))), .second, .val (.int (p3 &&& (3 : Int32))), .unset, .unset, .unset, .unset, .unset, .unset] [(.long ((p0 &&& (2147483647 : Int32)).toInt64)), (.long (own_lrem ((p1 &&& (2147483647 : Int32)).toInt64) (((p0 &&& (2147483647 : Int32)).toInt64) + (1 : Int64))))])) _
        refine XS.lsub X0.here hx rfl (hb hby at_35) rfl ?_
        show Steps p.tables e below (s₁.setTop (mkF m 36 #[.val (.int p0), .val (.int p1), .val (.long q2), .second, .val (.int p3), .val (.long ((p0 &&& (2147483647 : Int32)).toInt64)), .second, .val (.long (own_lrem ((p1 &&& (2147483647 : Int32)).toInt64) (((p0 &&& (2147483647 : Int32)).toInt64) + (1 : Int64)))), .second, .val (.int (p3 &&& (3 : Int32))), .unset, .unset, .unset, .unset, .unset, .unset] [(.long ((own_lrem ((p1 &&& (2147483647 : Int32)).toInt64) (((p0 &&& (2147483647 : Int32)).toInt64) + (1 : Int64))) - ((p0 &&& (2147483647 : Int32)).toInt64)))])) _
        refine XS.lloadN X0.here hx rfl (hb hby at_36) rfl ?_
        show Steps p.tables e below (s₁.setTop (mkF m 37 #[.val (.int p0), .val (.int p1), .val (.long q2), .second, .val (.int p3), .val (.long ((p0 &&& (2147483647 : Int32)).toInt64)), .second, .val (.long (own_lrem ((p1 &&& (2147483647 : Int32)).toInt64) (((p0 &&& (2147483647 : Int32)).toInt64) + (1 : Int64)))), .second, .val (.int (p3 &&& (3 : Int32))), .unset, .unset, .unset, .unset, .unset, .unset] [(.long q2), (.long ((own_lrem ((p1 &&& (2147483647 : Int32)).toInt64) (((p0 &&& (2147483647 : Int32)).toInt64) + (1 : Int64))) - ((p0 &&& (2147483647 : Int32)).toInt64)))])) _
        refine X0.ldc2Long hx hown (mvT hZ (hw _ (List.mem_of_getElem? (i := 9) rfl))) (g := (mkF m 37 #[.val (.int p0), .val (.int p1), .val (.long q2), .second, .val (.int p3), .val (.long ((p0 &&& (2147483647 : Int32)).toInt64)), .second, .val (.long (own_lrem ((p1 &&& (2147483647 : Int32)).toInt64) (((p0 &&& (2147483647 : Int32)).toInt64) + (1 : Int64)))), .second, .val (.int (p3 &&& (3 : Int32))), .unset, .unset, .unset, .unset, .unset, .unset] [(.long q2), (.long ((own_lrem ((p1 &&& (2147483647 : Int32)).toInt64) (((p0 &&& (2147483647 : Int32)).toInt64) + (1 : Int64))) - ((p0 &&& (2147483647 : Int32)).toInt64)))])) rfl (hb hby at_37) _ ?_
        show Steps p.tables e below (s₁.setTop (mkF m 40 #[.val (.int p0), .val (.int p1), .val (.long q2), .second, .val (.int p3), .val (.long ((p0 &&& (2147483647 : Int32)).toInt64)), .second, .val (.long (own_lrem ((p1 &&& (2147483647 : Int32)).toInt64) (((p0 &&& (2147483647 : Int32)).toInt64) + (1 : Int64)))), .second, .val (.int (p3 &&& (3 : Int32))), .unset, .unset, .unset, .unset, .unset, .unset] [(.long (3 : Int64)), (.long q2), (.long ((own_lrem ((p1 &&& (2147483647 : Int32)).toInt64) (((p0 &&& (2147483647 : Int32)).toInt64) + (1 : Int64))) - ((p0 &&& (2147483647 : Int32)).toInt64)))])) _
        refine XS.lrem X0.here hx rfl (hb hby at_40) rfl (by decide) ?_
        show Steps p.tables e below (s₁.setTop (mkF m 41 #[.val (.int p0), .val (.int p1), .val (.long q2), .second, .val (.int p3), .val (.long ((p0 &&& (2147483647 : Int32)).toInt64)), .second, .val (.long (own_lrem ((p1 &&& (2147483647 : Int32)).toInt64) (((p0 &&& (2147483647 : Int32)).toInt64) + (1 : Int64)))), .second, .val (.int (p3 &&& (3 : Int32))), .unset, .unset, .unset, .unset, .unset, .unset] [(.long (own_lrem q2 (3 : Int64))), (.long ((own_lrem ((p1 &&& (2147483647 : Int32)).toInt64) (((p0 &&& (2147483647 : Int32)).toInt64) + (1 : Int64))) - ((p0 &&& (2147483647 : Int32)).toInt64)))])) _
        refine XS.ladd X0.here hx rfl (hb hby at_41) rfl ?_
        show Steps p.tables e below (s₁.setTop (mkF m 42 #[.val (.int p0), .val (.int p1), .val (.long q2), .second, .val (.int p3), .val (.long ((p0 &&& (2147483647 : Int32)).toInt64)), .second, .val (.long (own_lrem ((p1 &&& (2147483647 : Int32)).toInt64) (((p0 &&& (2147483647 : Int32)).toInt64) + (1 : Int64)))), .second, .val (.int (p3 &&& (3 : Int32))), .unset, .unset, .unset, .unset, .unset, .unset] [(.long (((own_lrem ((p1 &&& (2147483647 : Int32)).toInt64) (((p0 &&& (2147483647 : Int32)).toInt64) + (1 : Int64))) - ((p0 &&& (2147483647 : Int32)).toInt64)) + (own_lrem q2 (3 : Int64))))])) _
        refine XS.lstore X0.here hx rfl (hb hby at_42) rfl (l' := #[.val (.int p0), .val (.int p1), .val (.long q2), .second, .val (.int p3), .val (.long ((p0 &&& (2147483647 : Int32)).toInt64)), .second, .val (.long (own_lrem ((p1 &&& (2147483647 : Int32)).toInt64) (((p0 &&& (2147483647 : Int32)).toInt64) + (1 : Int64)))), .second, .val (.int (p3 &&& (3 : Int32))), .val (.long (((own_lrem ((p1 &&& (2147483647 : Int32)).toInt64) (((p0 &&& (2147483647 : Int32)).toInt64) + (1 : Int64))) - ((p0 &&& (2147483647 : Int32)).toInt64)) + (own_lrem q2 (3 : Int64)))), .second, .unset, .unset, .unset, .unset]) rfl ?_
        show Steps p.tables e below (s₁.setTop (mkF m 44 #[.val (.int p0), .val (.int p1), .val (.long q2), .second, .val (.int p3), .val (.long ((p0 &&& (2147483647 : Int32)).toInt64)), .second, .val (.long (own_lrem ((p1 &&& (2147483647 : Int32)).toInt64) (((p0 &&& (2147483647 : Int32)).toInt64) + (1 : Int64)))), .second, .val (.int (p3 &&& (3 : Int32))), .val (.long (((own_lrem ((p1 &&& (2147483647 : Int32)).toInt64) (((p0 &&& (2147483647 : Int32)).toInt64) + (1 : Int64))) - ((p0 &&& (2147483647 : Int32)).toInt64)) + (own_lrem q2 (3 : Int64)))), .second, .unset, .unset, .unset, .unset] [])) _
        refine XS.goto X0.here hx rfl (pc0 := 44) (pc' := 73) rfl (hb hby at_44) (by decide) (by decide) ?_
        exact k)
    · have pre4 : ∀ t, Steps p.tables e below (s₁.setTop (mkF m 50 #[.val (.int p0), .val (.int p1), .val (.long q2), .second, .val (.int p3), .val (.long ((p0 &&& (2147483647 : Int32)).toInt64)), .second, .val (.long (own_lrem ((p1 &&& (2147483647 : Int32)).toInt64) (((p0 &&& (2147483647 : Int32)).toInt64) + (1 : Int64)))), .second, .val (.int (p3 &&& (3 : Int32))), .unset, .unset, .unset, .unset, .unset, .unset] [(.int (2 : Int32)), (.int (p3 &&& (3 : Int32)))])) t → Steps p.tables e below (s₁.setTop (entryFrame m #[(.int p0), (.int p1), (.long q2), (.int p3)] maxLocals)) t := fun t k => pre1 t (by
        show Steps p.tables e below (s₁.setTop (mkF m 28 #[.val (.int p0), .val (.int p1), .val (.long q2), .second, .val (.int p3), .val (.long ((p0 &&& (2147483647 : Int32)).toInt64)), .second, .val (.long (own_lrem ((p1 &&& (2147483647 : Int32)).toInt64) (((p0 &&& (2147483647 : Int32)).toInt64) + (1 : Int64)))), .second, .val (.int (p3 &&& (3 : Int32))), .unset, .unset, .unset, .unset, .unset, .unset] [(.int (1 : Int32)), (.int (p3 &&& (3 : Int32)))])) _
        refine XS.icmpYes X0.here hx rfl (pc0 := 28) (pc' := 47) rfl (hb hby at_28) rfl (feq hc28_3).2 (by decide) (by decide) ?_
        show Steps p.tables e below (s₁.setTop (mkF m 47 #[.val (.int p0), .val (.int p1), .val (.long q2), .second, .val (.int p3), .val (.long ((p0 &&& (2147483647 : Int32)).toInt64)), .second, .val (.long (own_lrem ((p1 &&& (2147483647 : Int32)).toInt64) (((p0 &&& (2147483647 : Int32)).toInt64) + (1 : Int64)))), .second, .val (.int (p3 &&& (3 : Int32))), .unset, .unset, .unset, .unset, .unset, .unset] [])) _
        refine XS.iload X0.here hx rfl (hb hby at_47) rfl ?_
        show Steps p.tables e below (s₁.setTop (mkF m 49 #[.val (.int p0), .val (.int p1), .val (.long q2), .second, .val (.int p3), .val (.long ((p0 &&& (2147483647 : Int32)).toInt64)), .second, .val (.long (own_lrem ((p1 &&& (2147483647 : Int32)).toInt64) (((p0 &&& (2147483647 : Int32)).toInt64) + (1 : Int64)))), .second, .val (.int (p3 &&& (3 : Int32))), .unset, .unset, .unset, .unset, .unset, .unset] [(.int (p3 &&& (3 : Int32)))])) _
        refine XS.iconst X0.here hx rfl (hb hby at_49) ?_
        exact k)
      by_cases hc50_5 : (p3 &&& (3 : Int32)) = (2 : Int32)
      · rw [show (own_step p0 p1 q2 p3) = (((2147483647 : Int64) - ((p0 &&& (2147483647 : Int32)).toInt64)) + (own_lrem q2 (3 : Int64))) from by simp only [own_step, if_neg hc28_3, if_pos hc50_5]]
        exact fun t k => pre4 t (by
          show Steps p.tables e below (s₁.setTop (mkF m 50 #[.val (.int p0), .val (.int p1), .val (.long q2), .second, .val (.int p3), .val (.long ((p0 &&& (2147483647 : Int32)).toInt64)), .second, .val (.long (own_lrem ((p1 &&& (2147483647 : Int32)).toInt64) (((p0 &&& (2147483647 : Int32)).toInt64) + (1 : Int64)))), .second, .val (.int (p3 &&& (3 : Int32))), .unset, .unset, .unset, .unset, .unset, .unset] [(.int (2 : Int32)), (.int (p3 &&& (3 : Int32)))])) _
          refine XS.icmpNo X0.here hx rfl (hb hby at_50) rfl (teq hc50_5).2 ?_
          show Steps p.tables e below (s₁.setTop (mkF m 53 #[.val (.int p0), .val (.int p1), .val (.long q2), .second, .val (.int p3), .val (.long ((p0 &&& (2147483647 : Int32)).toInt64)), .second, .val (.long (own_lrem ((p1 &&& (2147483647 : Int32)).toInt64) (((p0 &&& (2147483647 : Int32)).toInt64) + (1 : Int64)))), .second, .val (.int (p3 &&& (3 : Int32))), .unset, .unset, .unset, .unset, .unset, .unset] [])) _
          refine X0.ldc2Long hx hown (mvT hZ (hw _ (List.mem_of_getElem? (i := 3) rfl))) (g := (mkF m 53 #[.val (.int p0), .val (.int p1), .val (.long q2), .second, .val (.int p3), .val (.long ((p0 &&& (2147483647 : Int32)).toInt64)), .second, .val (.long (own_lrem ((p1 &&& (2147483647 : Int32)).toInt64) (((p0 &&& (2147483647 : Int32)).toInt64) + (1 : Int64)))), .second, .val (.int (p3 &&& (3 : Int32))), .unset, .unset, .unset, .unset, .unset, .unset] [])) rfl (hb hby at_53) _ ?_
          show Steps p.tables e below (s₁.setTop (mkF m 56 #[.val (.int p0), .val (.int p1), .val (.long q2), .second, .val (.int p3), .val (.long ((p0 &&& (2147483647 : Int32)).toInt64)), .second, .val (.long (own_lrem ((p1 &&& (2147483647 : Int32)).toInt64) (((p0 &&& (2147483647 : Int32)).toInt64) + (1 : Int64)))), .second, .val (.int (p3 &&& (3 : Int32))), .unset, .unset, .unset, .unset, .unset, .unset] [(.long (2147483647 : Int64))])) _
          refine XS.lload X0.here hx rfl (hb hby at_56) rfl ?_
          show Steps p.tables e below (s₁.setTop (mkF m 58 #[.val (.int p0), .val (.int p1), .val (.long q2), .second, .val (.int p3), .val (.long ((p0 &&& (2147483647 : Int32)).toInt64)), .second, .val (.long (own_lrem ((p1 &&& (2147483647 : Int32)).toInt64) (((p0 &&& (2147483647 : Int32)).toInt64) + (1 : Int64)))), .second, .val (.int (p3 &&& (3 : Int32))), .unset, .unset, .unset, .unset, .unset, .unset] [(.long ((p0 &&& (2147483647 : Int32)).toInt64)), (.long (2147483647 : Int64))])) _
          refine XS.lsub X0.here hx rfl (hb hby at_58) rfl ?_
          show Steps p.tables e below (s₁.setTop (mkF m 59 #[.val (.int p0), .val (.int p1), .val (.long q2), .second, .val (.int p3), .val (.long ((p0 &&& (2147483647 : Int32)).toInt64)), .second, .val (.long (own_lrem ((p1 &&& (2147483647 : Int32)).toInt64) (((p0 &&& (2147483647 : Int32)).toInt64) + (1 : Int64)))), .second, .val (.int (p3 &&& (3 : Int32))), .unset, .unset, .unset, .unset, .unset, .unset] [(.long ((2147483647 : Int64) - ((p0 &&& (2147483647 : Int32)).toInt64)))])) _
          refine XS.lloadN X0.here hx rfl (hb hby at_59) rfl ?_
          show Steps p.tables e below (s₁.setTop (mkF m 60 #[.val (.int p0), .val (.int p1), .val (.long q2), .second, .val (.int p3), .val (.long ((p0 &&& (2147483647 : Int32)).toInt64)), .second, .val (.long (own_lrem ((p1 &&& (2147483647 : Int32)).toInt64) (((p0 &&& (2147483647 : Int32)).toInt64) + (1 : Int64)))), .second, .val (.int (p3 &&& (3 : Int32))), .unset, .unset, .unset, .unset, .unset, .unset] [(.long q2), (.long ((2147483647 : Int64) - ((p0 &&& (2147483647 : Int32)).toInt64)))])) _
          refine X0.ldc2Long hx hown (mvT hZ (hw _ (List.mem_of_getElem? (i := 9) rfl))) (g := (mkF m 60 #[.val (.int p0), .val (.int p1), .val (.long q2), .second, .val (.int p3), .val (.long ((p0 &&& (2147483647 : Int32)).toInt64)), .second, .val (.long (own_lrem ((p1 &&& (2147483647 : Int32)).toInt64) (((p0 &&& (2147483647 : Int32)).toInt64) + (1 : Int64)))), .second, .val (.int (p3 &&& (3 : Int32))), .unset, .unset, .unset, .unset, .unset, .unset] [(.long q2), (.long ((2147483647 : Int64) - ((p0 &&& (2147483647 : Int32)).toInt64)))])) rfl (hb hby at_60) _ ?_
          show Steps p.tables e below (s₁.setTop (mkF m 63 #[.val (.int p0), .val (.int p1), .val (.long q2), .second, .val (.int p3), .val (.long ((p0 &&& (2147483647 : Int32)).toInt64)), .second, .val (.long (own_lrem ((p1 &&& (2147483647 : Int32)).toInt64) (((p0 &&& (2147483647 : Int32)).toInt64) + (1 : Int64)))), .second, .val (.int (p3 &&& (3 : Int32))), .unset, .unset, .unset, .unset, .unset, .unset] [(.long (3 : Int64)), (.long q2), (.long ((2147483647 : Int64) - ((p0 &&& (2147483647 : Int32)).toInt64)))])) _
          refine XS.lrem X0.here hx rfl (hb hby at_63) rfl (by decide) ?_
          show Steps p.tables e below (s₁.setTop (mkF m 64 #[.val (.int p0), .val (.int p1), .val (.long q2), .second, .val (.int p3), .val (.long ((p0 &&& (2147483647 : Int32)).toInt64)), .second, .val (.long (own_lrem ((p1 &&& (2147483647 : Int32)).toInt64) (((p0 &&& (2147483647 : Int32)).toInt64) + (1 : Int64)))), .second, .val (.int (p3 &&& (3 : Int32))), .unset, .unset, .unset, .unset, .unset, .unset] [(.long (own_lrem q2 (3 : Int64))), (.long ((2147483647 : Int64) - ((p0 &&& (2147483647 : Int32)).toInt64)))])) _
          refine XS.ladd X0.here hx rfl (hb hby at_64) rfl ?_
          show Steps p.tables e below (s₁.setTop (mkF m 65 #[.val (.int p0), .val (.int p1), .val (.long q2), .second, .val (.int p3), .val (.long ((p0 &&& (2147483647 : Int32)).toInt64)), .second, .val (.long (own_lrem ((p1 &&& (2147483647 : Int32)).toInt64) (((p0 &&& (2147483647 : Int32)).toInt64) + (1 : Int64)))), .second, .val (.int (p3 &&& (3 : Int32))), .unset, .unset, .unset, .unset, .unset, .unset] [(.long (((2147483647 : Int64) - ((p0 &&& (2147483647 : Int32)).toInt64)) + (own_lrem q2 (3 : Int64))))])) _
          refine XS.lstore X0.here hx rfl (hb hby at_65) rfl (l' := #[.val (.int p0), .val (.int p1), .val (.long q2), .second, .val (.int p3), .val (.long ((p0 &&& (2147483647 : Int32)).toInt64)), .second, .val (.long (own_lrem ((p1 &&& (2147483647 : Int32)).toInt64) (((p0 &&& (2147483647 : Int32)).toInt64) + (1 : Int64)))), .second, .val (.int (p3 &&& (3 : Int32))), .val (.long (((2147483647 : Int64) - ((p0 &&& (2147483647 : Int32)).toInt64)) + (own_lrem q2 (3 : Int64)))), .second, .unset, .unset, .unset, .unset]) rfl ?_
          show Steps p.tables e below (s₁.setTop (mkF m 67 #[.val (.int p0), .val (.int p1), .val (.long q2), .second, .val (.int p3), .val (.long ((p0 &&& (2147483647 : Int32)).toInt64)), .second, .val (.long (own_lrem ((p1 &&& (2147483647 : Int32)).toInt64) (((p0 &&& (2147483647 : Int32)).toInt64) + (1 : Int64)))), .second, .val (.int (p3 &&& (3 : Int32))), .val (.long (((2147483647 : Int64) - ((p0 &&& (2147483647 : Int32)).toInt64)) + (own_lrem q2 (3 : Int64)))), .second, .unset, .unset, .unset, .unset] [])) _
          refine XS.goto X0.here hx rfl (pc0 := 67) (pc' := 73) rfl (hb hby at_67) (by decide) (by decide) ?_
          exact k)
      · rw [show (own_step p0 p1 q2 p3) = q2 from by simp only [own_step, if_neg hc28_3, if_neg hc50_5]]
        exact fun t k => pre4 t (by
          show Steps p.tables e below (s₁.setTop (mkF m 50 #[.val (.int p0), .val (.int p1), .val (.long q2), .second, .val (.int p3), .val (.long ((p0 &&& (2147483647 : Int32)).toInt64)), .second, .val (.long (own_lrem ((p1 &&& (2147483647 : Int32)).toInt64) (((p0 &&& (2147483647 : Int32)).toInt64) + (1 : Int64)))), .second, .val (.int (p3 &&& (3 : Int32))), .unset, .unset, .unset, .unset, .unset, .unset] [(.int (2 : Int32)), (.int (p3 &&& (3 : Int32)))])) _
          refine XS.icmpYes X0.here hx rfl (pc0 := 50) (pc' := 70) rfl (hb hby at_50) rfl (feq hc50_5).2 (by decide) (by decide) ?_
          show Steps p.tables e below (s₁.setTop (mkF m 70 #[.val (.int p0), .val (.int p1), .val (.long q2), .second, .val (.int p3), .val (.long ((p0 &&& (2147483647 : Int32)).toInt64)), .second, .val (.long (own_lrem ((p1 &&& (2147483647 : Int32)).toInt64) (((p0 &&& (2147483647 : Int32)).toInt64) + (1 : Int64)))), .second, .val (.int (p3 &&& (3 : Int32))), .unset, .unset, .unset, .unset, .unset, .unset] [])) _
          refine XS.lloadN X0.here hx rfl (hb hby at_70) rfl ?_
          show Steps p.tables e below (s₁.setTop (mkF m 71 #[.val (.int p0), .val (.int p1), .val (.long q2), .second, .val (.int p3), .val (.long ((p0 &&& (2147483647 : Int32)).toInt64)), .second, .val (.long (own_lrem ((p1 &&& (2147483647 : Int32)).toInt64) (((p0 &&& (2147483647 : Int32)).toInt64) + (1 : Int64)))), .second, .val (.int (p3 &&& (3 : Int32))), .unset, .unset, .unset, .unset, .unset, .unset] [(.long q2)])) _
          refine XS.lstore X0.here hx rfl (hb hby at_71) rfl (l' := #[.val (.int p0), .val (.int p1), .val (.long q2), .second, .val (.int p3), .val (.long ((p0 &&& (2147483647 : Int32)).toInt64)), .second, .val (.long (own_lrem ((p1 &&& (2147483647 : Int32)).toInt64) (((p0 &&& (2147483647 : Int32)).toInt64) + (1 : Int64)))), .second, .val (.int (p3 &&& (3 : Int32))), .val (.long q2), .second, .unset, .unset, .unset, .unset]) rfl ?_
          exact k)
  have pre6 : ∀ t, Steps p.tables e below (s₁.setTop (mkF m 79 #[.val (.int p0), .val (.int p1), .val (.long q2), .second, .val (.int p3), .val (.long ((p0 &&& (2147483647 : Int32)).toInt64)), .second, .val (.long (own_lrem ((p1 &&& (2147483647 : Int32)).toInt64) (((p0 &&& (2147483647 : Int32)).toInt64) + (1 : Int64)))), .second, .val (.int (p3 &&& (3 : Int32))), .val (.long (own_step p0 p1 q2 p3)), .second, .unset, .unset, .unset, .unset] [(.int (lcmpW (own_step p0 p1 q2 p3) (-4294967296 : Int64)))])) t → Steps p.tables e below (s₁.setTop (entryFrame m #[(.int p0), (.int p1), (.long q2), (.int p3)] maxLocals)) t := fun t k => pre2 t (by
    show Steps p.tables e below (s₁.setTop (mkF m 73 #[.val (.int p0), .val (.int p1), .val (.long q2), .second, .val (.int p3), .val (.long ((p0 &&& (2147483647 : Int32)).toInt64)), .second, .val (.long (own_lrem ((p1 &&& (2147483647 : Int32)).toInt64) (((p0 &&& (2147483647 : Int32)).toInt64) + (1 : Int64)))), .second, .val (.int (p3 &&& (3 : Int32))), .val (.long (own_step p0 p1 q2 p3)), .second, .unset, .unset, .unset, .unset] [])) _
    refine XS.lload X0.here hx rfl (hb hby at_73) rfl ?_
    show Steps p.tables e below (s₁.setTop (mkF m 75 #[.val (.int p0), .val (.int p1), .val (.long q2), .second, .val (.int p3), .val (.long ((p0 &&& (2147483647 : Int32)).toInt64)), .second, .val (.long (own_lrem ((p1 &&& (2147483647 : Int32)).toInt64) (((p0 &&& (2147483647 : Int32)).toInt64) + (1 : Int64)))), .second, .val (.int (p3 &&& (3 : Int32))), .val (.long (own_step p0 p1 q2 p3)), .second, .unset, .unset, .unset, .unset] [(.long (own_step p0 p1 q2 p3))])) _
    refine X0.ldc2Long hx hown (mvT hZ (hw _ (List.mem_of_getElem? (i := 1) rfl))) (g := (mkF m 75 #[.val (.int p0), .val (.int p1), .val (.long q2), .second, .val (.int p3), .val (.long ((p0 &&& (2147483647 : Int32)).toInt64)), .second, .val (.long (own_lrem ((p1 &&& (2147483647 : Int32)).toInt64) (((p0 &&& (2147483647 : Int32)).toInt64) + (1 : Int64)))), .second, .val (.int (p3 &&& (3 : Int32))), .val (.long (own_step p0 p1 q2 p3)), .second, .unset, .unset, .unset, .unset] [(.long (own_step p0 p1 q2 p3))])) rfl (hb hby at_75) _ ?_
    show Steps p.tables e below (s₁.setTop (mkF m 78 #[.val (.int p0), .val (.int p1), .val (.long q2), .second, .val (.int p3), .val (.long ((p0 &&& (2147483647 : Int32)).toInt64)), .second, .val (.long (own_lrem ((p1 &&& (2147483647 : Int32)).toInt64) (((p0 &&& (2147483647 : Int32)).toInt64) + (1 : Int64)))), .second, .val (.int (p3 &&& (3 : Int32))), .val (.long (own_step p0 p1 q2 p3)), .second, .unset, .unset, .unset, .unset] [(.long (-4294967296 : Int64)), (.long (own_step p0 p1 q2 p3))])) _
    refine XS.lcmp X0.here hx rfl (hb hby at_78) rfl ?_
    exact k)
  obtain ⟨s14_7, s15_7, pre7⟩ : ∃ s14_7 s15_7 : Slot, ∀ t, Steps p.tables e below (s₁.setTop (mkF m 135 #[.val (.int p0), .val (.int p1), .val (.long q2), .second, .val (.int p3), .val (.long ((p0 &&& (2147483647 : Int32)).toInt64)), .second, .val (.long (own_lrem ((p1 &&& (2147483647 : Int32)).toInt64) (((p0 &&& (2147483647 : Int32)).toInt64) + (1 : Int64)))), .second, .val (.int (p3 &&& (3 : Int32))), .val (.long (own_step p0 p1 q2 p3)), .second, .val (.long (own_exp p0 p1 q2 p3)), .second, s14_7, s15_7] [])) t → Steps p.tables e below (s₁.setTop (entryFrame m #[(.int p0), (.int p1), (.long q2), (.int p3)] maxLocals)) t := by
    by_cases hc79_8 : (own_step p0 p1 q2 p3) < (-4294967296 : Int64)
    · refine ⟨.unset, .unset, ?_⟩
      rw [show (own_exp p0 p1 q2 p3) = (-1 : Int64) from by simp only [own_exp, if_pos hc79_8]]
      exact fun t k => pre6 t (by
        show Steps p.tables e below (s₁.setTop (mkF m 79 #[.val (.int p0), .val (.int p1), .val (.long q2), .second, .val (.int p3), .val (.long ((p0 &&& (2147483647 : Int32)).toInt64)), .second, .val (.long (own_lrem ((p1 &&& (2147483647 : Int32)).toInt64) (((p0 &&& (2147483647 : Int32)).toInt64) + (1 : Int64)))), .second, .val (.int (p3 &&& (3 : Int32))), .val (.long (own_step p0 p1 q2 p3)), .second, .unset, .unset, .unset, .unset] [(.int (lcmpW (own_step p0 p1 q2 p3) (-4294967296 : Int64)))])) _
        refine XS.ifYes X0.here hx rfl (pc0 := 79) (pc' := 91) rfl (hb hby at_79) rfl ((if0 _ _).trans (tlt ((lw_lt _ _).mpr hc79_8)).1) (by decide) (by decide) ?_
        show Steps p.tables e below (s₁.setTop (mkF m 91 #[.val (.int p0), .val (.int p1), .val (.long q2), .second, .val (.int p3), .val (.long ((p0 &&& (2147483647 : Int32)).toInt64)), .second, .val (.long (own_lrem ((p1 &&& (2147483647 : Int32)).toInt64) (((p0 &&& (2147483647 : Int32)).toInt64) + (1 : Int64)))), .second, .val (.int (p3 &&& (3 : Int32))), .val (.long (own_step p0 p1 q2 p3)), .second, .unset, .unset, .unset, .unset] [])) _
        refine X0.ldc2Long hx hown (mvT hZ (hw _ (List.mem_of_getElem? (i := 10) rfl))) (g := (mkF m 91 #[.val (.int p0), .val (.int p1), .val (.long q2), .second, .val (.int p3), .val (.long ((p0 &&& (2147483647 : Int32)).toInt64)), .second, .val (.long (own_lrem ((p1 &&& (2147483647 : Int32)).toInt64) (((p0 &&& (2147483647 : Int32)).toInt64) + (1 : Int64)))), .second, .val (.int (p3 &&& (3 : Int32))), .val (.long (own_step p0 p1 q2 p3)), .second, .unset, .unset, .unset, .unset] [])) rfl (hb hby at_91) _ ?_
        show Steps p.tables e below (s₁.setTop (mkF m 94 #[.val (.int p0), .val (.int p1), .val (.long q2), .second, .val (.int p3), .val (.long ((p0 &&& (2147483647 : Int32)).toInt64)), .second, .val (.long (own_lrem ((p1 &&& (2147483647 : Int32)).toInt64) (((p0 &&& (2147483647 : Int32)).toInt64) + (1 : Int64)))), .second, .val (.int (p3 &&& (3 : Int32))), .val (.long (own_step p0 p1 q2 p3)), .second, .unset, .unset, .unset, .unset] [(.long (-1 : Int64))])) _
        refine XS.lstore X0.here hx rfl (hb hby at_94) rfl (l' := #[.val (.int p0), .val (.int p1), .val (.long q2), .second, .val (.int p3), .val (.long ((p0 &&& (2147483647 : Int32)).toInt64)), .second, .val (.long (own_lrem ((p1 &&& (2147483647 : Int32)).toInt64) (((p0 &&& (2147483647 : Int32)).toInt64) + (1 : Int64)))), .second, .val (.int (p3 &&& (3 : Int32))), .val (.long (own_step p0 p1 q2 p3)), .second, .val (.long (-1 : Int64)), .second, .unset, .unset]) rfl ?_
        show Steps p.tables e below (s₁.setTop (mkF m 96 #[.val (.int p0), .val (.int p1), .val (.long q2), .second, .val (.int p3), .val (.long ((p0 &&& (2147483647 : Int32)).toInt64)), .second, .val (.long (own_lrem ((p1 &&& (2147483647 : Int32)).toInt64) (((p0 &&& (2147483647 : Int32)).toInt64) + (1 : Int64)))), .second, .val (.int (p3 &&& (3 : Int32))), .val (.long (own_step p0 p1 q2 p3)), .second, .val (.long (-1 : Int64)), .second, .unset, .unset] [])) _
        refine XS.goto X0.here hx rfl (pc0 := 96) (pc' := 135) rfl (hb hby at_96) (by decide) (by decide) ?_
        exact k)
    · have pre9 : ∀ t, Steps p.tables e below (s₁.setTop (mkF m 88 #[.val (.int p0), .val (.int p1), .val (.long q2), .second, .val (.int p3), .val (.long ((p0 &&& (2147483647 : Int32)).toInt64)), .second, .val (.long (own_lrem ((p1 &&& (2147483647 : Int32)).toInt64) (((p0 &&& (2147483647 : Int32)).toInt64) + (1 : Int64)))), .second, .val (.int (p3 &&& (3 : Int32))), .val (.long (own_step p0 p1 q2 p3)), .second, .unset, .unset, .unset, .unset] [(.int (lcmpW (own_step p0 p1 q2 p3) (4294967296 : Int64)))])) t → Steps p.tables e below (s₁.setTop (entryFrame m #[(.int p0), (.int p1), (.long q2), (.int p3)] maxLocals)) t := fun t k => pre6 t (by
        show Steps p.tables e below (s₁.setTop (mkF m 79 #[.val (.int p0), .val (.int p1), .val (.long q2), .second, .val (.int p3), .val (.long ((p0 &&& (2147483647 : Int32)).toInt64)), .second, .val (.long (own_lrem ((p1 &&& (2147483647 : Int32)).toInt64) (((p0 &&& (2147483647 : Int32)).toInt64) + (1 : Int64)))), .second, .val (.int (p3 &&& (3 : Int32))), .val (.long (own_step p0 p1 q2 p3)), .second, .unset, .unset, .unset, .unset] [(.int (lcmpW (own_step p0 p1 q2 p3) (-4294967296 : Int64)))])) _
        refine XS.ifNo X0.here hx rfl (hb hby at_79) rfl ((if0 _ _).trans (flt (fun q => hc79_8 ((lw_lt _ _).mp q))).1) ?_
        show Steps p.tables e below (s₁.setTop (mkF m 82 #[.val (.int p0), .val (.int p1), .val (.long q2), .second, .val (.int p3), .val (.long ((p0 &&& (2147483647 : Int32)).toInt64)), .second, .val (.long (own_lrem ((p1 &&& (2147483647 : Int32)).toInt64) (((p0 &&& (2147483647 : Int32)).toInt64) + (1 : Int64)))), .second, .val (.int (p3 &&& (3 : Int32))), .val (.long (own_step p0 p1 q2 p3)), .second, .unset, .unset, .unset, .unset] [])) _
        refine XS.lload X0.here hx rfl (hb hby at_82) rfl ?_
        show Steps p.tables e below (s₁.setTop (mkF m 84 #[.val (.int p0), .val (.int p1), .val (.long q2), .second, .val (.int p3), .val (.long ((p0 &&& (2147483647 : Int32)).toInt64)), .second, .val (.long (own_lrem ((p1 &&& (2147483647 : Int32)).toInt64) (((p0 &&& (2147483647 : Int32)).toInt64) + (1 : Int64)))), .second, .val (.int (p3 &&& (3 : Int32))), .val (.long (own_step p0 p1 q2 p3)), .second, .unset, .unset, .unset, .unset] [(.long (own_step p0 p1 q2 p3))])) _
        refine X0.ldc2Long hx hown (mvT hZ (hw _ (List.mem_of_getElem? (i := 2) rfl))) (g := (mkF m 84 #[.val (.int p0), .val (.int p1), .val (.long q2), .second, .val (.int p3), .val (.long ((p0 &&& (2147483647 : Int32)).toInt64)), .second, .val (.long (own_lrem ((p1 &&& (2147483647 : Int32)).toInt64) (((p0 &&& (2147483647 : Int32)).toInt64) + (1 : Int64)))), .second, .val (.int (p3 &&& (3 : Int32))), .val (.long (own_step p0 p1 q2 p3)), .second, .unset, .unset, .unset, .unset] [(.long (own_step p0 p1 q2 p3))])) rfl (hb hby at_84) _ ?_
        show Steps p.tables e below (s₁.setTop (mkF m 87 #[.val (.int p0), .val (.int p1), .val (.long q2), .second, .val (.int p3), .val (.long ((p0 &&& (2147483647 : Int32)).toInt64)), .second, .val (.long (own_lrem ((p1 &&& (2147483647 : Int32)).toInt64) (((p0 &&& (2147483647 : Int32)).toInt64) + (1 : Int64)))), .second, .val (.int (p3 &&& (3 : Int32))), .val (.long (own_step p0 p1 q2 p3)), .second, .unset, .unset, .unset, .unset] [(.long (4294967296 : Int64)), (.long (own_step p0 p1 q2 p3))])) _
        refine XS.lcmp X0.here hx rfl (hb hby at_87) rfl ?_
        exact k)
      by_cases hc88_10 : (4294967296 : Int64) < (own_step p0 p1 q2 p3)
      · refine ⟨.unset, .unset, ?_⟩
        rw [show (own_exp p0 p1 q2 p3) = (-1 : Int64) from by simp only [own_exp, if_neg hc79_8, if_pos hc88_10]]
        exact fun t k => pre9 t (by
          show Steps p.tables e below (s₁.setTop (mkF m 88 #[.val (.int p0), .val (.int p1), .val (.long q2), .second, .val (.int p3), .val (.long ((p0 &&& (2147483647 : Int32)).toInt64)), .second, .val (.long (own_lrem ((p1 &&& (2147483647 : Int32)).toInt64) (((p0 &&& (2147483647 : Int32)).toInt64) + (1 : Int64)))), .second, .val (.int (p3 &&& (3 : Int32))), .val (.long (own_step p0 p1 q2 p3)), .second, .unset, .unset, .unset, .unset] [(.int (lcmpW (own_step p0 p1 q2 p3) (4294967296 : Int64)))])) _
          refine XS.ifNo X0.here hx rfl (hb hby at_88) rfl ((if0 _ _).trans (tlt ((lw_gt _ _).mpr hc88_10)).2.2.2) ?_
          show Steps p.tables e below (s₁.setTop (mkF m 91 #[.val (.int p0), .val (.int p1), .val (.long q2), .second, .val (.int p3), .val (.long ((p0 &&& (2147483647 : Int32)).toInt64)), .second, .val (.long (own_lrem ((p1 &&& (2147483647 : Int32)).toInt64) (((p0 &&& (2147483647 : Int32)).toInt64) + (1 : Int64)))), .second, .val (.int (p3 &&& (3 : Int32))), .val (.long (own_step p0 p1 q2 p3)), .second, .unset, .unset, .unset, .unset] [])) _
          refine X0.ldc2Long hx hown (mvT hZ (hw _ (List.mem_of_getElem? (i := 10) rfl))) (g := (mkF m 91 #[.val (.int p0), .val (.int p1), .val (.long q2), .second, .val (.int p3), .val (.long ((p0 &&& (2147483647 : Int32)).toInt64)), .second, .val (.long (own_lrem ((p1 &&& (2147483647 : Int32)).toInt64) (((p0 &&& (2147483647 : Int32)).toInt64) + (1 : Int64)))), .second, .val (.int (p3 &&& (3 : Int32))), .val (.long (own_step p0 p1 q2 p3)), .second, .unset, .unset, .unset, .unset] [])) rfl (hb hby at_91) _ ?_
          show Steps p.tables e below (s₁.setTop (mkF m 94 #[.val (.int p0), .val (.int p1), .val (.long q2), .second, .val (.int p3), .val (.long ((p0 &&& (2147483647 : Int32)).toInt64)), .second, .val (.long (own_lrem ((p1 &&& (2147483647 : Int32)).toInt64) (((p0 &&& (2147483647 : Int32)).toInt64) + (1 : Int64)))), .second, .val (.int (p3 &&& (3 : Int32))), .val (.long (own_step p0 p1 q2 p3)), .second, .unset, .unset, .unset, .unset] [(.long (-1 : Int64))])) _
          refine XS.lstore X0.here hx rfl (hb hby at_94) rfl (l' := #[.val (.int p0), .val (.int p1), .val (.long q2), .second, .val (.int p3), .val (.long ((p0 &&& (2147483647 : Int32)).toInt64)), .second, .val (.long (own_lrem ((p1 &&& (2147483647 : Int32)).toInt64) (((p0 &&& (2147483647 : Int32)).toInt64) + (1 : Int64)))), .second, .val (.int (p3 &&& (3 : Int32))), .val (.long (own_step p0 p1 q2 p3)), .second, .val (.long (-1 : Int64)), .second, .unset, .unset]) rfl ?_
          show Steps p.tables e below (s₁.setTop (mkF m 96 #[.val (.int p0), .val (.int p1), .val (.long q2), .second, .val (.int p3), .val (.long ((p0 &&& (2147483647 : Int32)).toInt64)), .second, .val (.long (own_lrem ((p1 &&& (2147483647 : Int32)).toInt64) (((p0 &&& (2147483647 : Int32)).toInt64) + (1 : Int64)))), .second, .val (.int (p3 &&& (3 : Int32))), .val (.long (own_step p0 p1 q2 p3)), .second, .val (.long (-1 : Int64)), .second, .unset, .unset] [])) _
          refine XS.goto X0.here hx rfl (pc0 := 96) (pc' := 135) rfl (hb hby at_96) (by decide) (by decide) ?_
          exact k)
      · have pre11 : ∀ t, Steps p.tables e below (s₁.setTop (mkF m 111 #[.val (.int p0), .val (.int p1), .val (.long q2), .second, .val (.int p3), .val (.long ((p0 &&& (2147483647 : Int32)).toInt64)), .second, .val (.long (own_lrem ((p1 &&& (2147483647 : Int32)).toInt64) (((p0 &&& (2147483647 : Int32)).toInt64) + (1 : Int64)))), .second, .val (.int (p3 &&& (3 : Int32))), .val (.long (own_step p0 p1 q2 p3)), .second, .unset, .unset, .val (.long (((p0 &&& (2147483647 : Int32)).toInt64) + (own_step p0 p1 q2 p3))), .second] [(.int (lcmpW (((p0 &&& (2147483647 : Int32)).toInt64) + (own_step p0 p1 q2 p3)) (own_lrem ((p1 &&& (2147483647 : Int32)).toInt64) (((p0 &&& (2147483647 : Int32)).toInt64) + (1 : Int64)))))])) t → Steps p.tables e below (s₁.setTop (entryFrame m #[(.int p0), (.int p1), (.long q2), (.int p3)] maxLocals)) t := fun t k => pre9 t (by
          show Steps p.tables e below (s₁.setTop (mkF m 88 #[.val (.int p0), .val (.int p1), .val (.long q2), .second, .val (.int p3), .val (.long ((p0 &&& (2147483647 : Int32)).toInt64)), .second, .val (.long (own_lrem ((p1 &&& (2147483647 : Int32)).toInt64) (((p0 &&& (2147483647 : Int32)).toInt64) + (1 : Int64)))), .second, .val (.int (p3 &&& (3 : Int32))), .val (.long (own_step p0 p1 q2 p3)), .second, .unset, .unset, .unset, .unset] [(.int (lcmpW (own_step p0 p1 q2 p3) (4294967296 : Int64)))])) _
          refine XS.ifYes X0.here hx rfl (pc0 := 88) (pc' := 99) rfl (hb hby at_88) rfl ((if0 _ _).trans (flt (fun q => hc88_10 ((lw_gt _ _).mp q))).2.2.2) (by decide) (by decide) ?_
          show Steps p.tables e below (s₁.setTop (mkF m 99 #[.val (.int p0), .val (.int p1), .val (.long q2), .second, .val (.int p3), .val (.long ((p0 &&& (2147483647 : Int32)).toInt64)), .second, .val (.long (own_lrem ((p1 &&& (2147483647 : Int32)).toInt64) (((p0 &&& (2147483647 : Int32)).toInt64) + (1 : Int64)))), .second, .val (.int (p3 &&& (3 : Int32))), .val (.long (own_step p0 p1 q2 p3)), .second, .unset, .unset, .unset, .unset] [])) _
          refine XS.lload X0.here hx rfl (hb hby at_99) rfl ?_
          show Steps p.tables e below (s₁.setTop (mkF m 101 #[.val (.int p0), .val (.int p1), .val (.long q2), .second, .val (.int p3), .val (.long ((p0 &&& (2147483647 : Int32)).toInt64)), .second, .val (.long (own_lrem ((p1 &&& (2147483647 : Int32)).toInt64) (((p0 &&& (2147483647 : Int32)).toInt64) + (1 : Int64)))), .second, .val (.int (p3 &&& (3 : Int32))), .val (.long (own_step p0 p1 q2 p3)), .second, .unset, .unset, .unset, .unset] [(.long ((p0 &&& (2147483647 : Int32)).toInt64))])) _
          refine XS.lload X0.here hx rfl (hb hby at_101) rfl ?_
          show Steps p.tables e below (s₁.setTop (mkF m 103 #[.val (.int p0), .val (.int p1), .val (.long q2), .second, .val (.int p3), .val (.long ((p0 &&& (2147483647 : Int32)).toInt64)), .second, .val (.long (own_lrem ((p1 &&& (2147483647 : Int32)).toInt64) (((p0 &&& (2147483647 : Int32)).toInt64) + (1 : Int64)))), .second, .val (.int (p3 &&& (3 : Int32))), .val (.long (own_step p0 p1 q2 p3)), .second, .unset, .unset, .unset, .unset] [(.long (own_step p0 p1 q2 p3)), (.long ((p0 &&& (2147483647 : Int32)).toInt64))])) _
          refine XS.ladd X0.here hx rfl (hb hby at_103) rfl ?_
          show Steps p.tables e below (s₁.setTop (mkF m 104 #[.val (.int p0), .val (.int p1), .val (.long q2), .second, .val (.int p3), .val (.long ((p0 &&& (2147483647 : Int32)).toInt64)), .second, .val (.long (own_lrem ((p1 &&& (2147483647 : Int32)).toInt64) (((p0 &&& (2147483647 : Int32)).toInt64) + (1 : Int64)))), .second, .val (.int (p3 &&& (3 : Int32))), .val (.long (own_step p0 p1 q2 p3)), .second, .unset, .unset, .unset, .unset] [(.long (((p0 &&& (2147483647 : Int32)).toInt64) + (own_step p0 p1 q2 p3)))])) _
          refine XS.lstore X0.here hx rfl (hb hby at_104) rfl (l' := #[.val (.int p0), .val (.int p1), .val (.long q2), .second, .val (.int p3), .val (.long ((p0 &&& (2147483647 : Int32)).toInt64)), .second, .val (.long (own_lrem ((p1 &&& (2147483647 : Int32)).toInt64) (((p0 &&& (2147483647 : Int32)).toInt64) + (1 : Int64)))), .second, .val (.int (p3 &&& (3 : Int32))), .val (.long (own_step p0 p1 q2 p3)), .second, .unset, .unset, .val (.long (((p0 &&& (2147483647 : Int32)).toInt64) + (own_step p0 p1 q2 p3))), .second]) rfl ?_
          show Steps p.tables e below (s₁.setTop (mkF m 106 #[.val (.int p0), .val (.int p1), .val (.long q2), .second, .val (.int p3), .val (.long ((p0 &&& (2147483647 : Int32)).toInt64)), .second, .val (.long (own_lrem ((p1 &&& (2147483647 : Int32)).toInt64) (((p0 &&& (2147483647 : Int32)).toInt64) + (1 : Int64)))), .second, .val (.int (p3 &&& (3 : Int32))), .val (.long (own_step p0 p1 q2 p3)), .second, .unset, .unset, .val (.long (((p0 &&& (2147483647 : Int32)).toInt64) + (own_step p0 p1 q2 p3))), .second] [])) _
          refine XS.lload X0.here hx rfl (hb hby at_106) rfl ?_
          show Steps p.tables e below (s₁.setTop (mkF m 108 #[.val (.int p0), .val (.int p1), .val (.long q2), .second, .val (.int p3), .val (.long ((p0 &&& (2147483647 : Int32)).toInt64)), .second, .val (.long (own_lrem ((p1 &&& (2147483647 : Int32)).toInt64) (((p0 &&& (2147483647 : Int32)).toInt64) + (1 : Int64)))), .second, .val (.int (p3 &&& (3 : Int32))), .val (.long (own_step p0 p1 q2 p3)), .second, .unset, .unset, .val (.long (((p0 &&& (2147483647 : Int32)).toInt64) + (own_step p0 p1 q2 p3))), .second] [(.long (((p0 &&& (2147483647 : Int32)).toInt64) + (own_step p0 p1 q2 p3)))])) _
          refine XS.lload X0.here hx rfl (hb hby at_108) rfl ?_
          show Steps p.tables e below (s₁.setTop (mkF m 110 #[.val (.int p0), .val (.int p1), .val (.long q2), .second, .val (.int p3), .val (.long ((p0 &&& (2147483647 : Int32)).toInt64)), .second, .val (.long (own_lrem ((p1 &&& (2147483647 : Int32)).toInt64) (((p0 &&& (2147483647 : Int32)).toInt64) + (1 : Int64)))), .second, .val (.int (p3 &&& (3 : Int32))), .val (.long (own_step p0 p1 q2 p3)), .second, .unset, .unset, .val (.long (((p0 &&& (2147483647 : Int32)).toInt64) + (own_step p0 p1 q2 p3))), .second] [(.long (own_lrem ((p1 &&& (2147483647 : Int32)).toInt64) (((p0 &&& (2147483647 : Int32)).toInt64) + (1 : Int64)))), (.long (((p0 &&& (2147483647 : Int32)).toInt64) + (own_step p0 p1 q2 p3)))])) _
          refine XS.lcmp X0.here hx rfl (hb hby at_110) rfl ?_
          exact k)
        by_cases hc111_12 : (((p0 &&& (2147483647 : Int32)).toInt64) + (own_step p0 p1 q2 p3)) < (own_lrem ((p1 &&& (2147483647 : Int32)).toInt64) (((p0 &&& (2147483647 : Int32)).toInt64) + (1 : Int64)))
        · refine ⟨.val (.long (((p0 &&& (2147483647 : Int32)).toInt64) + (own_step p0 p1 q2 p3))), .second, ?_⟩
          rw [show (own_exp p0 p1 q2 p3) = (-1 : Int64) from by simp only [own_exp, if_neg hc79_8, if_neg hc88_10, if_pos hc111_12]]
          exact fun t k => pre11 t (by
            show Steps p.tables e below (s₁.setTop (mkF m 111 #[.val (.int p0), .val (.int p1), .val (.long q2), .second, .val (.int p3), .val (.long ((p0 &&& (2147483647 : Int32)).toInt64)), .second, .val (.long (own_lrem ((p1 &&& (2147483647 : Int32)).toInt64) (((p0 &&& (2147483647 : Int32)).toInt64) + (1 : Int64)))), .second, .val (.int (p3 &&& (3 : Int32))), .val (.long (own_step p0 p1 q2 p3)), .second, .unset, .unset, .val (.long (((p0 &&& (2147483647 : Int32)).toInt64) + (own_step p0 p1 q2 p3))), .second] [(.int (lcmpW (((p0 &&& (2147483647 : Int32)).toInt64) + (own_step p0 p1 q2 p3)) (own_lrem ((p1 &&& (2147483647 : Int32)).toInt64) (((p0 &&& (2147483647 : Int32)).toInt64) + (1 : Int64)))))])) _
            refine XS.ifYes X0.here hx rfl (pc0 := 111) (pc' := 130) rfl (hb hby at_111) rfl ((if0 _ _).trans (tlt ((lw_lt _ _).mpr hc111_12)).1) (by decide) (by decide) ?_
            show Steps p.tables e below (s₁.setTop (mkF m 130 #[.val (.int p0), .val (.int p1), .val (.long q2), .second, .val (.int p3), .val (.long ((p0 &&& (2147483647 : Int32)).toInt64)), .second, .val (.long (own_lrem ((p1 &&& (2147483647 : Int32)).toInt64) (((p0 &&& (2147483647 : Int32)).toInt64) + (1 : Int64)))), .second, .val (.int (p3 &&& (3 : Int32))), .val (.long (own_step p0 p1 q2 p3)), .second, .unset, .unset, .val (.long (((p0 &&& (2147483647 : Int32)).toInt64) + (own_step p0 p1 q2 p3))), .second] [])) _
            refine X0.ldc2Long hx hown (mvT hZ (hw _ (List.mem_of_getElem? (i := 10) rfl))) (g := (mkF m 130 #[.val (.int p0), .val (.int p1), .val (.long q2), .second, .val (.int p3), .val (.long ((p0 &&& (2147483647 : Int32)).toInt64)), .second, .val (.long (own_lrem ((p1 &&& (2147483647 : Int32)).toInt64) (((p0 &&& (2147483647 : Int32)).toInt64) + (1 : Int64)))), .second, .val (.int (p3 &&& (3 : Int32))), .val (.long (own_step p0 p1 q2 p3)), .second, .unset, .unset, .val (.long (((p0 &&& (2147483647 : Int32)).toInt64) + (own_step p0 p1 q2 p3))), .second] [])) rfl (hb hby at_130) _ ?_
            show Steps p.tables e below (s₁.setTop (mkF m 133 #[.val (.int p0), .val (.int p1), .val (.long q2), .second, .val (.int p3), .val (.long ((p0 &&& (2147483647 : Int32)).toInt64)), .second, .val (.long (own_lrem ((p1 &&& (2147483647 : Int32)).toInt64) (((p0 &&& (2147483647 : Int32)).toInt64) + (1 : Int64)))), .second, .val (.int (p3 &&& (3 : Int32))), .val (.long (own_step p0 p1 q2 p3)), .second, .unset, .unset, .val (.long (((p0 &&& (2147483647 : Int32)).toInt64) + (own_step p0 p1 q2 p3))), .second] [(.long (-1 : Int64))])) _
            refine XS.lstore X0.here hx rfl (hb hby at_133) rfl (l' := #[.val (.int p0), .val (.int p1), .val (.long q2), .second, .val (.int p3), .val (.long ((p0 &&& (2147483647 : Int32)).toInt64)), .second, .val (.long (own_lrem ((p1 &&& (2147483647 : Int32)).toInt64) (((p0 &&& (2147483647 : Int32)).toInt64) + (1 : Int64)))), .second, .val (.int (p3 &&& (3 : Int32))), .val (.long (own_step p0 p1 q2 p3)), .second, .val (.long (-1 : Int64)), .second, .val (.long (((p0 &&& (2147483647 : Int32)).toInt64) + (own_step p0 p1 q2 p3))), .second]) rfl ?_
            exact k)
        · have pre13 : ∀ t, Steps p.tables e below (s₁.setTop (mkF m 120 #[.val (.int p0), .val (.int p1), .val (.long q2), .second, .val (.int p3), .val (.long ((p0 &&& (2147483647 : Int32)).toInt64)), .second, .val (.long (own_lrem ((p1 &&& (2147483647 : Int32)).toInt64) (((p0 &&& (2147483647 : Int32)).toInt64) + (1 : Int64)))), .second, .val (.int (p3 &&& (3 : Int32))), .val (.long (own_step p0 p1 q2 p3)), .second, .unset, .unset, .val (.long (((p0 &&& (2147483647 : Int32)).toInt64) + (own_step p0 p1 q2 p3))), .second] [(.int (lcmpW (((p0 &&& (2147483647 : Int32)).toInt64) + (own_step p0 p1 q2 p3)) (2147483647 : Int64)))])) t → Steps p.tables e below (s₁.setTop (entryFrame m #[(.int p0), (.int p1), (.long q2), (.int p3)] maxLocals)) t := fun t k => pre11 t (by
            show Steps p.tables e below (s₁.setTop (mkF m 111 #[.val (.int p0), .val (.int p1), .val (.long q2), .second, .val (.int p3), .val (.long ((p0 &&& (2147483647 : Int32)).toInt64)), .second, .val (.long (own_lrem ((p1 &&& (2147483647 : Int32)).toInt64) (((p0 &&& (2147483647 : Int32)).toInt64) + (1 : Int64)))), .second, .val (.int (p3 &&& (3 : Int32))), .val (.long (own_step p0 p1 q2 p3)), .second, .unset, .unset, .val (.long (((p0 &&& (2147483647 : Int32)).toInt64) + (own_step p0 p1 q2 p3))), .second] [(.int (lcmpW (((p0 &&& (2147483647 : Int32)).toInt64) + (own_step p0 p1 q2 p3)) (own_lrem ((p1 &&& (2147483647 : Int32)).toInt64) (((p0 &&& (2147483647 : Int32)).toInt64) + (1 : Int64)))))])) _
            refine XS.ifNo X0.here hx rfl (hb hby at_111) rfl ((if0 _ _).trans (flt (fun q => hc111_12 ((lw_lt _ _).mp q))).1) ?_
            show Steps p.tables e below (s₁.setTop (mkF m 114 #[.val (.int p0), .val (.int p1), .val (.long q2), .second, .val (.int p3), .val (.long ((p0 &&& (2147483647 : Int32)).toInt64)), .second, .val (.long (own_lrem ((p1 &&& (2147483647 : Int32)).toInt64) (((p0 &&& (2147483647 : Int32)).toInt64) + (1 : Int64)))), .second, .val (.int (p3 &&& (3 : Int32))), .val (.long (own_step p0 p1 q2 p3)), .second, .unset, .unset, .val (.long (((p0 &&& (2147483647 : Int32)).toInt64) + (own_step p0 p1 q2 p3))), .second] [])) _
            refine XS.lload X0.here hx rfl (hb hby at_114) rfl ?_
            show Steps p.tables e below (s₁.setTop (mkF m 116 #[.val (.int p0), .val (.int p1), .val (.long q2), .second, .val (.int p3), .val (.long ((p0 &&& (2147483647 : Int32)).toInt64)), .second, .val (.long (own_lrem ((p1 &&& (2147483647 : Int32)).toInt64) (((p0 &&& (2147483647 : Int32)).toInt64) + (1 : Int64)))), .second, .val (.int (p3 &&& (3 : Int32))), .val (.long (own_step p0 p1 q2 p3)), .second, .unset, .unset, .val (.long (((p0 &&& (2147483647 : Int32)).toInt64) + (own_step p0 p1 q2 p3))), .second] [(.long (((p0 &&& (2147483647 : Int32)).toInt64) + (own_step p0 p1 q2 p3)))])) _
            refine X0.ldc2Long hx hown (mvT hZ (hw _ (List.mem_of_getElem? (i := 3) rfl))) (g := (mkF m 116 #[.val (.int p0), .val (.int p1), .val (.long q2), .second, .val (.int p3), .val (.long ((p0 &&& (2147483647 : Int32)).toInt64)), .second, .val (.long (own_lrem ((p1 &&& (2147483647 : Int32)).toInt64) (((p0 &&& (2147483647 : Int32)).toInt64) + (1 : Int64)))), .second, .val (.int (p3 &&& (3 : Int32))), .val (.long (own_step p0 p1 q2 p3)), .second, .unset, .unset, .val (.long (((p0 &&& (2147483647 : Int32)).toInt64) + (own_step p0 p1 q2 p3))), .second] [(.long (((p0 &&& (2147483647 : Int32)).toInt64) + (own_step p0 p1 q2 p3)))])) rfl (hb hby at_116) _ ?_
            show Steps p.tables e below (s₁.setTop (mkF m 119 #[.val (.int p0), .val (.int p1), .val (.long q2), .second, .val (.int p3), .val (.long ((p0 &&& (2147483647 : Int32)).toInt64)), .second, .val (.long (own_lrem ((p1 &&& (2147483647 : Int32)).toInt64) (((p0 &&& (2147483647 : Int32)).toInt64) + (1 : Int64)))), .second, .val (.int (p3 &&& (3 : Int32))), .val (.long (own_step p0 p1 q2 p3)), .second, .unset, .unset, .val (.long (((p0 &&& (2147483647 : Int32)).toInt64) + (own_step p0 p1 q2 p3))), .second] [(.long (2147483647 : Int64)), (.long (((p0 &&& (2147483647 : Int32)).toInt64) + (own_step p0 p1 q2 p3)))])) _
            refine XS.lcmp X0.here hx rfl (hb hby at_119) rfl ?_
            exact k)
          by_cases hc120_14 : (2147483647 : Int64) < (((p0 &&& (2147483647 : Int32)).toInt64) + (own_step p0 p1 q2 p3))
          · refine ⟨.val (.long (((p0 &&& (2147483647 : Int32)).toInt64) + (own_step p0 p1 q2 p3))), .second, ?_⟩
            rw [show (own_exp p0 p1 q2 p3) = (-1 : Int64) from by simp only [own_exp, if_neg hc79_8, if_neg hc88_10, if_neg hc111_12, if_pos hc120_14]]
            exact fun t k => pre13 t (by
              show Steps p.tables e below (s₁.setTop (mkF m 120 #[.val (.int p0), .val (.int p1), .val (.long q2), .second, .val (.int p3), .val (.long ((p0 &&& (2147483647 : Int32)).toInt64)), .second, .val (.long (own_lrem ((p1 &&& (2147483647 : Int32)).toInt64) (((p0 &&& (2147483647 : Int32)).toInt64) + (1 : Int64)))), .second, .val (.int (p3 &&& (3 : Int32))), .val (.long (own_step p0 p1 q2 p3)), .second, .unset, .unset, .val (.long (((p0 &&& (2147483647 : Int32)).toInt64) + (own_step p0 p1 q2 p3))), .second] [(.int (lcmpW (((p0 &&& (2147483647 : Int32)).toInt64) + (own_step p0 p1 q2 p3)) (2147483647 : Int64)))])) _
              refine XS.ifYes X0.here hx rfl (pc0 := 120) (pc' := 130) rfl (hb hby at_120) rfl ((if0 _ _).trans (tlt ((lw_gt _ _).mpr hc120_14)).2.2.1) (by decide) (by decide) ?_
              show Steps p.tables e below (s₁.setTop (mkF m 130 #[.val (.int p0), .val (.int p1), .val (.long q2), .second, .val (.int p3), .val (.long ((p0 &&& (2147483647 : Int32)).toInt64)), .second, .val (.long (own_lrem ((p1 &&& (2147483647 : Int32)).toInt64) (((p0 &&& (2147483647 : Int32)).toInt64) + (1 : Int64)))), .second, .val (.int (p3 &&& (3 : Int32))), .val (.long (own_step p0 p1 q2 p3)), .second, .unset, .unset, .val (.long (((p0 &&& (2147483647 : Int32)).toInt64) + (own_step p0 p1 q2 p3))), .second] [])) _
              refine X0.ldc2Long hx hown (mvT hZ (hw _ (List.mem_of_getElem? (i := 10) rfl))) (g := (mkF m 130 #[.val (.int p0), .val (.int p1), .val (.long q2), .second, .val (.int p3), .val (.long ((p0 &&& (2147483647 : Int32)).toInt64)), .second, .val (.long (own_lrem ((p1 &&& (2147483647 : Int32)).toInt64) (((p0 &&& (2147483647 : Int32)).toInt64) + (1 : Int64)))), .second, .val (.int (p3 &&& (3 : Int32))), .val (.long (own_step p0 p1 q2 p3)), .second, .unset, .unset, .val (.long (((p0 &&& (2147483647 : Int32)).toInt64) + (own_step p0 p1 q2 p3))), .second] [])) rfl (hb hby at_130) _ ?_
              show Steps p.tables e below (s₁.setTop (mkF m 133 #[.val (.int p0), .val (.int p1), .val (.long q2), .second, .val (.int p3), .val (.long ((p0 &&& (2147483647 : Int32)).toInt64)), .second, .val (.long (own_lrem ((p1 &&& (2147483647 : Int32)).toInt64) (((p0 &&& (2147483647 : Int32)).toInt64) + (1 : Int64)))), .second, .val (.int (p3 &&& (3 : Int32))), .val (.long (own_step p0 p1 q2 p3)), .second, .unset, .unset, .val (.long (((p0 &&& (2147483647 : Int32)).toInt64) + (own_step p0 p1 q2 p3))), .second] [(.long (-1 : Int64))])) _
              refine XS.lstore X0.here hx rfl (hb hby at_133) rfl (l' := #[.val (.int p0), .val (.int p1), .val (.long q2), .second, .val (.int p3), .val (.long ((p0 &&& (2147483647 : Int32)).toInt64)), .second, .val (.long (own_lrem ((p1 &&& (2147483647 : Int32)).toInt64) (((p0 &&& (2147483647 : Int32)).toInt64) + (1 : Int64)))), .second, .val (.int (p3 &&& (3 : Int32))), .val (.long (own_step p0 p1 q2 p3)), .second, .val (.long (-1 : Int64)), .second, .val (.long (((p0 &&& (2147483647 : Int32)).toInt64) + (own_step p0 p1 q2 p3))), .second]) rfl ?_
              exact k)
          · refine ⟨.val (.long (((p0 &&& (2147483647 : Int32)).toInt64) + (own_step p0 p1 q2 p3))), .second, ?_⟩
            rw [show (own_exp p0 p1 q2 p3) = (((p0 &&& (2147483647 : Int32)).toInt64) + (own_step p0 p1 q2 p3)) from by simp only [own_exp, if_neg hc79_8, if_neg hc88_10, if_neg hc111_12, if_neg hc120_14]]
            exact fun t k => pre13 t (by
              show Steps p.tables e below (s₁.setTop (mkF m 120 #[.val (.int p0), .val (.int p1), .val (.long q2), .second, .val (.int p3), .val (.long ((p0 &&& (2147483647 : Int32)).toInt64)), .second, .val (.long (own_lrem ((p1 &&& (2147483647 : Int32)).toInt64) (((p0 &&& (2147483647 : Int32)).toInt64) + (1 : Int64)))), .second, .val (.int (p3 &&& (3 : Int32))), .val (.long (own_step p0 p1 q2 p3)), .second, .unset, .unset, .val (.long (((p0 &&& (2147483647 : Int32)).toInt64) + (own_step p0 p1 q2 p3))), .second] [(.int (lcmpW (((p0 &&& (2147483647 : Int32)).toInt64) + (own_step p0 p1 q2 p3)) (2147483647 : Int64)))])) _
              refine XS.ifNo X0.here hx rfl (hb hby at_120) rfl ((if0 _ _).trans (flt (fun q => hc120_14 ((lw_gt _ _).mp q))).2.2.1) ?_
              show Steps p.tables e below (s₁.setTop (mkF m 123 #[.val (.int p0), .val (.int p1), .val (.long q2), .second, .val (.int p3), .val (.long ((p0 &&& (2147483647 : Int32)).toInt64)), .second, .val (.long (own_lrem ((p1 &&& (2147483647 : Int32)).toInt64) (((p0 &&& (2147483647 : Int32)).toInt64) + (1 : Int64)))), .second, .val (.int (p3 &&& (3 : Int32))), .val (.long (own_step p0 p1 q2 p3)), .second, .unset, .unset, .val (.long (((p0 &&& (2147483647 : Int32)).toInt64) + (own_step p0 p1 q2 p3))), .second] [])) _
              refine XS.lload X0.here hx rfl (hb hby at_123) rfl ?_
              show Steps p.tables e below (s₁.setTop (mkF m 125 #[.val (.int p0), .val (.int p1), .val (.long q2), .second, .val (.int p3), .val (.long ((p0 &&& (2147483647 : Int32)).toInt64)), .second, .val (.long (own_lrem ((p1 &&& (2147483647 : Int32)).toInt64) (((p0 &&& (2147483647 : Int32)).toInt64) + (1 : Int64)))), .second, .val (.int (p3 &&& (3 : Int32))), .val (.long (own_step p0 p1 q2 p3)), .second, .unset, .unset, .val (.long (((p0 &&& (2147483647 : Int32)).toInt64) + (own_step p0 p1 q2 p3))), .second] [(.long (((p0 &&& (2147483647 : Int32)).toInt64) + (own_step p0 p1 q2 p3)))])) _
              refine XS.lstore X0.here hx rfl (hb hby at_125) rfl (l' := #[.val (.int p0), .val (.int p1), .val (.long q2), .second, .val (.int p3), .val (.long ((p0 &&& (2147483647 : Int32)).toInt64)), .second, .val (.long (own_lrem ((p1 &&& (2147483647 : Int32)).toInt64) (((p0 &&& (2147483647 : Int32)).toInt64) + (1 : Int64)))), .second, .val (.int (p3 &&& (3 : Int32))), .val (.long (own_step p0 p1 q2 p3)), .second, .val (.long (((p0 &&& (2147483647 : Int32)).toInt64) + (own_step p0 p1 q2 p3))), .second, .val (.long (((p0 &&& (2147483647 : Int32)).toInt64) + (own_step p0 p1 q2 p3))), .second]) rfl ?_
              show Steps p.tables e below (s₁.setTop (mkF m 127 #[.val (.int p0), .val (.int p1), .val (.long q2), .second, .val (.int p3), .val (.long ((p0 &&& (2147483647 : Int32)).toInt64)), .second, .val (.long (own_lrem ((p1 &&& (2147483647 : Int32)).toInt64) (((p0 &&& (2147483647 : Int32)).toInt64) + (1 : Int64)))), .second, .val (.int (p3 &&& (3 : Int32))), .val (.long (own_step p0 p1 q2 p3)), .second, .val (.long (((p0 &&& (2147483647 : Int32)).toInt64) + (own_step p0 p1 q2 p3))), .second, .val (.long (((p0 &&& (2147483647 : Int32)).toInt64) + (own_step p0 p1 q2 p3))), .second] [])) _
              refine XS.goto X0.here hx rfl (pc0 := 127) (pc' := 135) rfl (hb hby at_127) (by decide) (by decide) ?_
              exact k)
  obtain ⟨_, _, ⟨T15, L15, k15, n15⟩, -, X15, ⟨Lc15, hQ15, l15, y15, z15⟩, st15⟩ := Jvm.LawKit.callS X0 hx (y := (⟨"com/example/codicil/codicil/stored/TermVectorViews", "addWithinInt32", "(JJJ)J"⟩ : MethodName)) hown (mvT hZ (hw _ (List.mem_of_getElem? (i := 4) rfl))) (mvT hZ (hw _ (List.mem_of_getElem? (i := 5) rfl))) (mvT hZ (hw _ (List.mem_of_getElem? (i := 6) rfl))) (mvT hZ (hw _ (List.mem_of_getElem? (i := 7) rfl))) (by decide) (backOf (W := 0) (rm1 l Z aw hw [] ((p0 &&& (2147483647 : Int32)).toInt64) (own_step p0 p1 q2 p3) (own_lrem ((p1 &&& (2147483647 : Int32)).toInt64) (((p0 &&& (2147483647 : Int32)).toInt64) + (1 : Int64))) h0 n0 Z0) hZ (hw _ (List.mem_of_getElem? (i := 7) rfl)) (hw _ (List.mem_of_getElem? (i := 6) rfl)) (by decide) (by decide)) (g := (mkF m 141 #[.val (.int p0), .val (.int p1), .val (.long q2), .second, .val (.int p3), .val (.long ((p0 &&& (2147483647 : Int32)).toInt64)), .second, .val (.long (own_lrem ((p1 &&& (2147483647 : Int32)).toInt64) (((p0 &&& (2147483647 : Int32)).toInt64) + (1 : Int64)))), .second, .val (.int (p3 &&& (3 : Int32))), .val (.long (own_step p0 p1 q2 p3)), .second, .val (.long (own_exp p0 p1 q2 p3)), .second, s14_7, s15_7] [(.long (own_lrem ((p1 &&& (2147483647 : Int32)).toInt64) (((p0 &&& (2147483647 : Int32)).toInt64) + (1 : Int64)))), (.long (own_step p0 p1 q2 p3)), (.long ((p0 &&& (2147483647 : Int32)).toInt64))])) rfl (by rw [hml]; rfl) (argsL := [(.long ((p0 &&& (2147483647 : Int32)).toInt64)), (.long (own_step p0 p1 q2 p3)), (.long (own_lrem ((p1 &&& (2147483647 : Int32)).toInt64) (((p0 &&& (2147483647 : Int32)).toInt64) + (1 : Int64))))]) (rest := []) (lenOf pd_rm0_0 rfl) rfl (by show 2 * 0 + _ ≤ _; exact Nat.le_of_eq rfl) (hb hby at_141) (fun _ _ => ⟨rfl, e0, (by decide : 0 + 0 ≤ _), (by decide : 0 + 0 ≤ _)⟩)
  dsimp only [Pt.U, Pt.locs, Pt.cells, Pt.slots] at X15 l15 y15 z15 st15 hQ15
  subst l15 y15 z15
  obtain ⟨rfl, N15q, e15q⟩ := hQ15
  have N15 := Fr.app N0 N15q
  have pre16 : ∀ t, Steps p.tables e below (T15.setTop (mkF m 147 #[.val (.int p0), .val (.int p1), .val (.long q2), .second, .val (.int p3), .val (.long ((p0 &&& (2147483647 : Int32)).toInt64)), .second, .val (.long (own_lrem ((p1 &&& (2147483647 : Int32)).toInt64) (((p0 &&& (2147483647 : Int32)).toInt64) + (1 : Int64)))), .second, .val (.int (p3 &&& (3 : Int32))), .val (.long (own_step p0 p1 q2 p3)), .second, .val (.long (own_exp p0 p1 q2 p3)), .second, s14_7, s15_7] [(.int (lcmpW (own_f1 ((p0 &&& (2147483647 : Int32)).toInt64) (own_step p0 p1 q2 p3) (own_lrem ((p1 &&& (2147483647 : Int32)).toInt64) (((p0 &&& (2147483647 : Int32)).toInt64) + (1 : Int64)))) (own_exp p0 p1 q2 p3)))])) t → Steps p.tables e below (s₁.setTop (entryFrame m #[(.int p0), (.int p1), (.long q2), (.int p3)] maxLocals)) t := fun t k => pre7 t (by
    show Steps p.tables e below (s₁.setTop (mkF m 135 #[.val (.int p0), .val (.int p1), .val (.long q2), .second, .val (.int p3), .val (.long ((p0 &&& (2147483647 : Int32)).toInt64)), .second, .val (.long (own_lrem ((p1 &&& (2147483647 : Int32)).toInt64) (((p0 &&& (2147483647 : Int32)).toInt64) + (1 : Int64)))), .second, .val (.int (p3 &&& (3 : Int32))), .val (.long (own_step p0 p1 q2 p3)), .second, .val (.long (own_exp p0 p1 q2 p3)), .second, s14_7, s15_7] [])) _
    refine XS.lload X0.here hx rfl (hb hby at_135) rfl ?_
    show Steps p.tables e below (s₁.setTop (mkF m 137 #[.val (.int p0), .val (.int p1), .val (.long q2), .second, .val (.int p3), .val (.long ((p0 &&& (2147483647 : Int32)).toInt64)), .second, .val (.long (own_lrem ((p1 &&& (2147483647 : Int32)).toInt64) (((p0 &&& (2147483647 : Int32)).toInt64) + (1 : Int64)))), .second, .val (.int (p3 &&& (3 : Int32))), .val (.long (own_step p0 p1 q2 p3)), .second, .val (.long (own_exp p0 p1 q2 p3)), .second, s14_7, s15_7] [(.long ((p0 &&& (2147483647 : Int32)).toInt64))])) _
    refine XS.lload X0.here hx rfl (hb hby at_137) rfl ?_
    show Steps p.tables e below (s₁.setTop (mkF m 139 #[.val (.int p0), .val (.int p1), .val (.long q2), .second, .val (.int p3), .val (.long ((p0 &&& (2147483647 : Int32)).toInt64)), .second, .val (.long (own_lrem ((p1 &&& (2147483647 : Int32)).toInt64) (((p0 &&& (2147483647 : Int32)).toInt64) + (1 : Int64)))), .second, .val (.int (p3 &&& (3 : Int32))), .val (.long (own_step p0 p1 q2 p3)), .second, .val (.long (own_exp p0 p1 q2 p3)), .second, s14_7, s15_7] [(.long (own_step p0 p1 q2 p3)), (.long ((p0 &&& (2147483647 : Int32)).toInt64))])) _
    refine XS.lload X0.here hx rfl (hb hby at_139) rfl ?_
    show Steps p.tables e below (s₁.setTop (mkF m 141 #[.val (.int p0), .val (.int p1), .val (.long q2), .second, .val (.int p3), .val (.long ((p0 &&& (2147483647 : Int32)).toInt64)), .second, .val (.long (own_lrem ((p1 &&& (2147483647 : Int32)).toInt64) (((p0 &&& (2147483647 : Int32)).toInt64) + (1 : Int64)))), .second, .val (.int (p3 &&& (3 : Int32))), .val (.long (own_step p0 p1 q2 p3)), .second, .val (.long (own_exp p0 p1 q2 p3)), .second, s14_7, s15_7] [(.long (own_lrem ((p1 &&& (2147483647 : Int32)).toInt64) (((p0 &&& (2147483647 : Int32)).toInt64) + (1 : Int64)))), (.long (own_step p0 p1 q2 p3)), (.long ((p0 &&& (2147483647 : Int32)).toInt64))])) _
    refine st15 _ ?_
    show Steps p.tables e below (T15.setTop (mkF m 144 #[.val (.int p0), .val (.int p1), .val (.long q2), .second, .val (.int p3), .val (.long ((p0 &&& (2147483647 : Int32)).toInt64)), .second, .val (.long (own_lrem ((p1 &&& (2147483647 : Int32)).toInt64) (((p0 &&& (2147483647 : Int32)).toInt64) + (1 : Int64)))), .second, .val (.int (p3 &&& (3 : Int32))), .val (.long (own_step p0 p1 q2 p3)), .second, .val (.long (own_exp p0 p1 q2 p3)), .second, s14_7, s15_7] [(.long (own_f1 ((p0 &&& (2147483647 : Int32)).toInt64) (own_step p0 p1 q2 p3) (own_lrem ((p1 &&& (2147483647 : Int32)).toInt64) (((p0 &&& (2147483647 : Int32)).toInt64) + (1 : Int64)))))])) _
    refine XS.lload X15.here hx rfl (hb hby at_144) rfl ?_
    show Steps p.tables e below (T15.setTop (mkF m 146 #[.val (.int p0), .val (.int p1), .val (.long q2), .second, .val (.int p3), .val (.long ((p0 &&& (2147483647 : Int32)).toInt64)), .second, .val (.long (own_lrem ((p1 &&& (2147483647 : Int32)).toInt64) (((p0 &&& (2147483647 : Int32)).toInt64) + (1 : Int64)))), .second, .val (.int (p3 &&& (3 : Int32))), .val (.long (own_step p0 p1 q2 p3)), .second, .val (.long (own_exp p0 p1 q2 p3)), .second, s14_7, s15_7] [(.long (own_exp p0 p1 q2 p3)), (.long (own_f1 ((p0 &&& (2147483647 : Int32)).toInt64) (own_step p0 p1 q2 p3) (own_lrem ((p1 &&& (2147483647 : Int32)).toInt64) (((p0 &&& (2147483647 : Int32)).toInt64) + (1 : Int64)))))])) _
    refine XS.lcmp X15.here hx rfl (hb hby at_146) rfl ?_
    exact k)
  by_cases hc147_17 : (own_f1 ((p0 &&& (2147483647 : Int32)).toInt64) (own_step p0 p1 q2 p3) (own_lrem ((p1 &&& (2147483647 : Int32)).toInt64) (((p0 &&& (2147483647 : Int32)).toInt64) + (1 : Int64)))) = (own_exp p0 p1 q2 p3)
  · obtain ⟨fs, hr, hrun, hended, hW, hsame⟩ := X15.leave (v := some (.int (1 : Int32))) (fun h => by rw [Bd.returns] at h; cases h)
    refine ⟨_, _, pre16 _ ?_, hrun, hended, _, _, rfl, ?_, ⟨_, rfl⟩, hW, hsame.mono (by decide) (by decide)⟩
    · show Steps p.tables e below (T15.setTop (mkF m 147 #[.val (.int p0), .val (.int p1), .val (.long q2), .second, .val (.int p3), .val (.long ((p0 &&& (2147483647 : Int32)).toInt64)), .second, .val (.long (own_lrem ((p1 &&& (2147483647 : Int32)).toInt64) (((p0 &&& (2147483647 : Int32)).toInt64) + (1 : Int64)))), .second, .val (.int (p3 &&& (3 : Int32))), .val (.long (own_step p0 p1 q2 p3)), .second, .val (.long (own_exp p0 p1 q2 p3)), .second, s14_7, s15_7] [(.int (lcmpW (own_f1 ((p0 &&& (2147483647 : Int32)).toInt64) (own_step p0 p1 q2 p3) (own_lrem ((p1 &&& (2147483647 : Int32)).toInt64) (((p0 &&& (2147483647 : Int32)).toInt64) + (1 : Int64)))) (own_exp p0 p1 q2 p3)))])) _
      refine XS.ifNo X15.here hx rfl (hb hby at_147) rfl ((if0 _ _).trans (teq ((lw_eq _ _).mpr hc147_17)).2) ?_
      show Steps p.tables e below (T15.setTop (mkF m 150 #[.val (.int p0), .val (.int p1), .val (.long q2), .second, .val (.int p3), .val (.long ((p0 &&& (2147483647 : Int32)).toInt64)), .second, .val (.long (own_lrem ((p1 &&& (2147483647 : Int32)).toInt64) (((p0 &&& (2147483647 : Int32)).toInt64) + (1 : Int64)))), .second, .val (.int (p3 &&& (3 : Int32))), .val (.long (own_step p0 p1 q2 p3)), .second, .val (.long (own_exp p0 p1 q2 p3)), .second, s14_7, s15_7] [])) _
      refine XS.iconst X15.here hx rfl (hb hby at_150) ?_
      show Steps p.tables e below (T15.setTop (mkF m 151 #[.val (.int p0), .val (.int p1), .val (.long q2), .second, .val (.int p3), .val (.long ((p0 &&& (2147483647 : Int32)).toInt64)), .second, .val (.long (own_lrem ((p1 &&& (2147483647 : Int32)).toInt64) (((p0 &&& (2147483647 : Int32)).toInt64) + (1 : Int64)))), .second, .val (.int (p3 &&& (3 : Int32))), .val (.long (own_step p0 p1 q2 p3)), .second, .val (.long (own_exp p0 p1 q2 p3)), .second, s14_7, s15_7] [(.int (1 : Int32))])) _
      refine XS.goto X15.here hx rfl (pc0 := 151) (pc' := 155) rfl (hb hby at_151) (by decide) (by decide) ?_
      show Steps p.tables e below (T15.setTop (mkF m 155 #[.val (.int p0), .val (.int p1), .val (.long q2), .second, .val (.int p3), .val (.long ((p0 &&& (2147483647 : Int32)).toInt64)), .second, .val (.long (own_lrem ((p1 &&& (2147483647 : Int32)).toInt64) (((p0 &&& (2147483647 : Int32)).toInt64) + (1 : Int64)))), .second, .val (.int (p3 &&& (3 : Int32))), .val (.long (own_step p0 p1 q2 p3)), .second, .val (.long (own_exp p0 p1 q2 p3)), .second, s14_7, s15_7] [(.int (1 : Int32))])) _
      exact retN X15 hx (t := .boolean) Bd.returns (by simp) (hb hby at_155) hr
    · show rm0Q Z p0 p1 q2 p3 h0 n0 _ T15.heap _
      rw [e15q]
      have hres : own_f0 p0 p1 q2 p3 = (1 : Int32) := by
        simp only [own_f0, if_pos hc147_17]
      exact ⟨by rw [hres], N15, rfl⟩
  · obtain ⟨fs, hr, hrun, hended, hW, hsame⟩ := X15.leave (v := some (.int (0 : Int32))) (fun h => by rw [Bd.returns] at h; cases h)
    refine ⟨_, _, pre16 _ ?_, hrun, hended, _, _, rfl, ?_, ⟨_, rfl⟩, hW, hsame.mono (by decide) (by decide)⟩
    · show Steps p.tables e below (T15.setTop (mkF m 147 #[.val (.int p0), .val (.int p1), .val (.long q2), .second, .val (.int p3), .val (.long ((p0 &&& (2147483647 : Int32)).toInt64)), .second, .val (.long (own_lrem ((p1 &&& (2147483647 : Int32)).toInt64) (((p0 &&& (2147483647 : Int32)).toInt64) + (1 : Int64)))), .second, .val (.int (p3 &&& (3 : Int32))), .val (.long (own_step p0 p1 q2 p3)), .second, .val (.long (own_exp p0 p1 q2 p3)), .second, s14_7, s15_7] [(.int (lcmpW (own_f1 ((p0 &&& (2147483647 : Int32)).toInt64) (own_step p0 p1 q2 p3) (own_lrem ((p1 &&& (2147483647 : Int32)).toInt64) (((p0 &&& (2147483647 : Int32)).toInt64) + (1 : Int64)))) (own_exp p0 p1 q2 p3)))])) _
      refine XS.ifYes X15.here hx rfl (pc0 := 147) (pc' := 154) rfl (hb hby at_147) rfl ((if0 _ _).trans (feq (fun q => hc147_17 ((lw_eq _ _).mp q))).2) (by decide) (by decide) ?_
      show Steps p.tables e below (T15.setTop (mkF m 154 #[.val (.int p0), .val (.int p1), .val (.long q2), .second, .val (.int p3), .val (.long ((p0 &&& (2147483647 : Int32)).toInt64)), .second, .val (.long (own_lrem ((p1 &&& (2147483647 : Int32)).toInt64) (((p0 &&& (2147483647 : Int32)).toInt64) + (1 : Int64)))), .second, .val (.int (p3 &&& (3 : Int32))), .val (.long (own_step p0 p1 q2 p3)), .second, .val (.long (own_exp p0 p1 q2 p3)), .second, s14_7, s15_7] [])) _
      refine XS.iconst X15.here hx rfl (hb hby at_154) ?_
      show Steps p.tables e below (T15.setTop (mkF m 155 #[.val (.int p0), .val (.int p1), .val (.long q2), .second, .val (.int p3), .val (.long ((p0 &&& (2147483647 : Int32)).toInt64)), .second, .val (.long (own_lrem ((p1 &&& (2147483647 : Int32)).toInt64) (((p0 &&& (2147483647 : Int32)).toInt64) + (1 : Int64)))), .second, .val (.int (p3 &&& (3 : Int32))), .val (.long (own_step p0 p1 q2 p3)), .second, .val (.long (own_exp p0 p1 q2 p3)), .second, s14_7, s15_7] [(.int (0 : Int32))])) _
      exact retN X15 hx (t := .boolean) Bd.returns (by simp) (hb hby at_155) hr
    · show rm0Q Z p0 p1 q2 p3 h0 n0 _ T15.heap _
      rw [e15q]
      have hres : own_f0 p0 p1 q2 p3 = (0 : Int32) := by
        simp only [own_f0, if_neg hc147_17]
      exact ⟨by rw [hres], N15, rfl⟩
theorem own_core (F S R : Int64) (h1 : 0 ≤ F.toInt) (h2 : F.toInt < 2147483648) (h3 : 0 ≤ R.toInt) (h4 : R.toInt ≤ F.toInt) :
    own_f1 F S R = (if S < (-4294967296 : Int64) then (-1 : Int64) else (if (4294967296 : Int64) < S then (-1 : Int64) else (if (F + S) < R then (-1 : Int64) else (if (2147483647 : Int64) < (F + S) then (-1 : Int64) else (F + S))))) := by
  have l1 : (2147483647 : Int64).toInt = 2147483647 := by decide
  have l2 : (4294967296 : Int64).toInt = 4294967296 := by decide
  have l3 : (-4294967296 : Int64).toInt = -4294967296 := by decide
  have a1 := c_lsub R F
  have a2 := c_lsub 2147483647 F
  have a3 := c_ladd F S
  have r1 := rng64 (R - F)
  have r2 := rng64 (2147483647 - F)
  have r3 := rng64 (F + S)
  have r4 := rng64 S
  rw [l1] at a2
  unfold own_f1
  simp only [Int64.lt_iff_toInt_lt, l1, l2, l3]
  by_cases b1 : S.toInt < (R - F).toInt
  · rw [if_pos b1]
    by_cases b2 : S.toInt < -4294967296
    · rw [if_pos b2]
    · rw [if_neg b2, if_neg (by omega), if_pos (by omega)]
  · rw [if_neg b1]
    by_cases b2 : (2147483647 - F).toInt < S.toInt
    · rw [if_pos b2, if_neg (by omega)]
      by_cases b3 : 4294967296 < S.toInt
      · rw [if_pos b3]
      · rw [if_neg b3, if_neg (by omega), if_pos (by omega)]
    · rw [if_neg b2, if_neg (by omega), if_neg (by omega), if_neg (by omega), if_neg (by omega)]
theorem own_law (a b : Int32) (c : Int64) (d : Int32) : own_f0 a b c d = 1 := by
  have hF := c_mask a 2147483647 31 (by decide) (by decide)
  have hG := c_mask b 2147483647 31 (by decide) (by decide)
  have eF : (a &&& (2147483647 : Int32)).toInt64.toInt = a.toInt % 2147483648 := by rw [c_i2l, hF]; rfl
  have eG : (b &&& (2147483647 : Int32)).toInt64.toInt = b.toInt % 2147483648 := by rw [c_i2l, hG]; rfl
  have eR : 0 ≤ (own_lrem (b &&& (2147483647 : Int32)).toInt64 ((a &&& (2147483647 : Int32)).toInt64 + 1)).toInt ∧ (own_lrem (b &&& (2147483647 : Int32)).toInt64 ((a &&& (2147483647 : Int32)).toInt64 + 1)).toInt ≤ (a &&& (2147483647 : Int32)).toInt64.toInt := by
    have e1 := c_ladd (a &&& (2147483647 : Int32)).toInt64 1
    have r1 := rng64 ((a &&& (2147483647 : Int32)).toInt64 + 1)
    rw [show (1 : Int64).toInt = 1 by decide] at e1
    have e2 : ((a &&& (2147483647 : Int32)).toInt64 + 1).toInt = (a &&& (2147483647 : Int32)).toInt64.toInt + 1 := by omega
    have e3 := c_lrem (b &&& (2147483647 : Int32)).toInt64 ((a &&& (2147483647 : Int32)).toInt64 + 1) _ e2
    change (_ → (own_lrem (b &&& (2147483647 : Int32)).toInt64 ((a &&& (2147483647 : Int32)).toInt64 + 1)).toInt = _) ∧ _ at e3
    rw [e3.1 (by omega)]
    have q1 := Int.emod_nonneg (b &&& (2147483647 : Int32)).toInt64.toInt (show (a &&& (2147483647 : Int32)).toInt64.toInt + 1 ≠ 0 by omega)
    have q2 := Int.emod_lt_of_pos (b &&& (2147483647 : Int32)).toInt64.toInt (show 0 < (a &&& (2147483647 : Int32)).toInt64.toInt + 1 by omega)
    omega
  unfold own_f0
  rw [if_pos]
  unfold own_exp
  exact own_core _ _ _ (by omega) (by omega) eR.1 eR.2

set_option maxRecDepth 65536 in
set_option maxHeartbeats 40000000 in
theorem comes_1 {Post : Tables → Env → Array Value → State → Outcome → State → Prop} (hpost : ∀ tb e args s v u, (limb_1_1.after args s (.returned v) u = true ∧ limb_1_2.after args s (.returned v) u = true ∧ True) → FrameEnd s (.returned v) u (Jvm.fieldLocs frame_1_writes args s ++ Jvm.arrayLocs frame_1_arrays args s ++ Jvm.staticLocs frame_1_statics s) 0 0 → Post tb e args s (.returned v) u) :
    ArmFor flags0 classFile x code maxLocals ret World_1 tables_1 room_1 Calls_1 rest_1 Pre_1 Post := by
  intro l hfl _ _ p e ha hc hk s m args below hf hA hF happ hP
  obtain ⟨hcalls, hrest, hpre⟩ := hP
  obtain ⟨-, -, -, hnamed, -, -, -, hat⟩ := (Spec.applies_iff hf).mp happ
  obtain ⟨hg, hn⟩ := and_e (Cond.before_iff.mp (show (Jvm.Cond.and given_1 narrow_1).before args s = true from hpre))
  obtain ⟨g1, g2⟩ := and_e hg
  obtain ⟨g3, g4⟩ := and_e g2
  obtain ⟨g5, g6⟩ := and_e g4
  obtain ⟨g7, g8⟩ := and_e g6
  obtain ⟨w0, w1, w2, w3, rfl⟩ : ∃ w0 w1 w2 w3 : Value, args = #[w0, w1, w2, w3] := by
    have hs : args.size = 4 := by simpa [Cond.value, given_1] using g1
    obtain ⟨L⟩ := args
    match L, hs with
    | [w0, w1, w2, w3], _ => exact ⟨w0, w1, w2, w3, rfl⟩
  have hw := fun d (hd : d ∈ tables_1) => atoms_spec (ws := Jvm.Cond.code x code maxLocals ret :: tables_1) hat d (List.mem_cons_of_mem _ hd)
  have hfit : Fit s := fun {y c} hc i hi => by
    obtain ⟨ha, rfl⟩ := Array.getElem?_eq_some_iff.mp hc
    have q := List.all_eq_true.mp ((Array.all_eq_true_iff_forall_mem.mp hF) _ (Array.getElem_mem ha)) i (List.mem_range.mpr hi)
    simpa [Array.getElem?_eq_getElem hi] using q
  obtain ⟨i0, ei0⟩ := is_v g3
  obtain rfl : w0 = (.int i0) := Option.some.inj ei0
  obtain ⟨i1, ei1⟩ := is_v g5
  obtain rfl : w1 = (.int i1) := Option.some.inj ei1
  obtain ⟨i2, ei2⟩ := isL_v g7
  obtain rfl : w2 = (.long i2) := Option.some.inj ei2
  obtain ⟨i3, ei3⟩ := is_v g8
  obtain rfl : w3 = (.int i3) := Option.some.inj ei3
  obtain ⟨n, o, h1, h2, h3, _, L, rfl, ⟨hv, N, -⟩, hq⟩ := rm0 l s _ hw tables_1 i0 i1 i2 i3 s.heap s.heap.size (Nat.le_refl _) p e ha hc hk s m _ below hf ((Spec.applies_iff_loose hf).mp happ).1 ⟨rfl, State.Warmed39.refl s, rfl⟩ trivial
  rw [own_law i0 i1 i2 i3] at hv
  subst hv
  refine ⟨n, _, h1, h2, h3, hpost _ _ _ _ _ _ ⟨Cond.after_iff.mpr rfl, Cond.after_iff.mpr (eq_i res_at (Term.int_eval (1)) rfl), trivial⟩ ⟨hq.1, hq.2.1, (hq.2.2.sift fun y hy => Or.inr (N y hy)).mono (by decide) (by decide)⟩⟩
theorem main_1_1 : Claimed_1_1 := comes_1 fun _ _ _ _ _ _ h hF => ⟨h.1, hF⟩
theorem main_1_2 : Claimed_1_2 := comes_1 fun _ _ _ _ _ _ h hF => ⟨h.2.1, hF⟩
end Jvm.Pilot.@@N@@
namespace Jvm.Pilot.@@N@@
open Jvm Jvm.ClassFile Sem Op Lib Jvm.Free Jvm.Stand Jvm.Pilot.@@N@@.Jvm.D
/-! MADE BY PROGRAM (witnessworld.py) out of the Statement's table words and the real class files: 7 classes; the members and pool entries that the words name. The judged class is class 1, her method 1. -/
namespace start1
open Jvm.ClassFile
def u (s : String) : CpInfo := .utf8 (stringToUtf16 s)
/-- a pool by its gaps: so many unusable entries, then the entry; so many at the end -/
def gap : Nat → List CpInfo → List CpInfo
  | 0, r => r
  | n + 1, r => .unusable :: gap n r
def poolList (es : List (Nat × CpInfo)) (last : Nat) : List CpInfo := es.foldr (fun e r => gap e.1 (e.2 :: r)) (gap last [])
def pool (es : List (Nat × CpInfo)) (last : Nat) : Array CpInfo := ⟨poolList es last⟩
def fileOf (pool : Array CpInfo) (this : Nat) (attrs : Array Attribute := #[]) (ms : Array MethodInfo := #[]) (fl : Nat := 33) (sup : Nat := 0) (ifs : Array Nat := #[]) (fds : Array FieldInfo := #[]) : ClassFile where
  minorVersion := 0
  majorVersion := 65
  constantPool := pool
  accessFlags := fl
  thisClass := this
  superClass := sup
  interfaces := ifs
  fields := fds
  methods := ms
  attributes := attrs
def plain (name : String) (sup : Option ClassId) : Class where
  name := name
  kind := .ordinary
  loader := none
  accessFlags := 33
  super := sup
  interfaces := #[]
  cf := none
  fields := #[]
  methods := #[]
  instanceTypes := #[]
  staticTypes := #[]
  resolved := #[]
  callSites := []
  init := .initialized
  statics := none
  mirror := none

def pool0 : Array CpInfo := pool [(5, u "<init>"), (0, u "()V"), (1, .class_ 10), (1, u "java/lang/Object")] 113

def k0m0 : Method := { name := "<init>", desc := "()V", sig := { parameters := [], returnType := none }, accessFlags := 1, code := none }
/-- java/lang/Object -/
def k0 : Class := { plain "java/lang/Object" none with
  accessFlags := 33
  interfaces := #[]
  cf := some (fileOf pool0 8 #[] #[{ accessFlags := 1, nameIndex := 5, descriptorIndex := 6, attributes := #[] }] 33 0 #[] #[])
  fields := #[]
  methods := #[k0m0]
  instanceTypes := #[]
  staticTypes := #[]
  resolved := Array.replicate 124 none
  statics := none }

def pool1 : Array CpInfo := pool [(2, .class_ 4), (1, u "java/lang/Object"), (0, u "<init>"), (0, u "()V"), (0, .integer 2147483647), (0, .long 3), (3, .long 2147483647), (1, .long 18446744069414584320), (1, .long 4294967296), (1, .long 18446744073709551615), (1, .methodref 21 22), (0, .class_ 23), (0, .nameAndType 24 25), (0, u "com/example/codicil/codicil/stored/TermVectorViews"), (0, u "addWithinInt32"), (0, u "(JJJ)J"), (0, .class_ 27), (0, u "com/example/codicil/codicil/stored/TermVectorViewsAddWithinInt32PinLaw"), (2, u "law"), (0, u "(IIJI)Z")] 3

def k1m0 : Method := { name := "<init>", desc := "()V", sig := { parameters := [], returnType := none }, accessFlags := 1, code := none }
def k1c1 : Code := { maxStack := 6, maxLocals := 16, code := code, exceptionTable := #[], attributes := #[] }
def k1m1 : Method := { name := "law", desc := "(IIJI)Z", sig := { parameters := [.int, .int, .long, .int], returnType := some .boolean }, accessFlags := 9, code := some k1c1 }
/-- com/example/codicil/codicil/stored/TermVectorViewsAddWithinInt32PinLaw -/
def k1 : Class := { plain "com/example/codicil/codicil/stored/TermVectorViewsAddWithinInt32PinLaw" (some 0) with
  accessFlags := 49
  interfaces := #[]
  cf := some (fileOf pool1 26 #[] #[{ accessFlags := 1, nameIndex := 5, descriptorIndex := 6, attributes := #[] }, { accessFlags := 9, nameIndex := 30, descriptorIndex := 31, attributes := #[] }] 49 2 #[] #[])
  fields := #[]
  methods := #[k1m0, k1m1]
  instanceTypes := #[]
  staticTypes := #[]
  resolved := Array.replicate 35 none
  statics := none }

def pool2 : Array CpInfo := pool [(2, .class_ 4), (1, u "java/lang/Object"), (2, .class_ 8), (0, u "com/example/codicil/codicil/stored/TermVectorViews$FieldView"), (1, .class_ 12), (1, u "com/example/codicil/codicil/stored/TermVectorViews"), (0, u "fieldViews"), (0, u "[Lcom/example/codicil/codicil/stored/TermVectorViews$FieldView;"), (2, u "termBytes"), (0, u "[B"), (2, u "termStarts"), (0, u "[I"), (2, u "frequencies"), (0, u "[J"), (2, u "occurrenceStarts"), (2, u "positions"), (2, u "startOffsets"), (2, u "endOffsets"), (2, u "payloadStarts"), (2, u "payloadLengths"), (2, u "payloadBytes"), (0, .class_ 49), (0, u "com/example/codicil/codicil/stored/TermVectorViews$DocumentView"), (2, u "documentViews"), (0, u "[Lcom/example/codicil/codicil/stored/TermVectorViews$DocumentView;"), (7, u "run"), (0, u "Lcom/example/codicil/codicil/store/RunList;"), (20, u "I"), (31, .long 2147483647), (1, .long 18446744073709551615), (1, u "POSITIONS"), (2, u "OFFSETS"), (1, u "PAYLOADS"), (17, u "addWithinInt32"), (0, u "(JJJ)J")] 6

def k2c0 : Code := { maxStack := 6, maxLocals := 6, code := prog_175_method_7_code, exceptionTable := #[], attributes := #[] }
def k2m0 : Method := { name := "addWithinInt32", desc := "(JJJ)J", sig := { parameters := [.long, .long, .long], returnType := some .long }, accessFlags := 8, code := some k2c0 }
/-- com/example/codicil/codicil/stored/TermVectorViews -/
def k2 : Class := { plain "com/example/codicil/codicil/stored/TermVectorViews" (some 0) with
  accessFlags := 49
  interfaces := #[]
  cf := some (fileOf pool2 10 #[.nestMembers #[7, 48]] #[{ accessFlags := 8, nameIndex := 142, descriptorIndex := 143, attributes := #[] }] 49 2 #[] #[{ accessFlags := 24, nameIndex := 119, descriptorIndex := 83, attributes := #[] }, { accessFlags := 24, nameIndex := 122, descriptorIndex := 83, attributes := #[] }, { accessFlags := 24, nameIndex := 124, descriptorIndex := 83, attributes := #[] }, { accessFlags := 18, nameIndex := 52, descriptorIndex := 53, attributes := #[] }, { accessFlags := 18, nameIndex := 61, descriptorIndex := 62, attributes := #[] }, { accessFlags := 2, nameIndex := 13, descriptorIndex := 14, attributes := #[] }, { accessFlags := 0, nameIndex := 17, descriptorIndex := 18, attributes := #[] }, { accessFlags := 0, nameIndex := 21, descriptorIndex := 22, attributes := #[] }, { accessFlags := 0, nameIndex := 25, descriptorIndex := 26, attributes := #[] }, { accessFlags := 0, nameIndex := 29, descriptorIndex := 22, attributes := #[] }, { accessFlags := 0, nameIndex := 32, descriptorIndex := 26, attributes := #[] }, { accessFlags := 0, nameIndex := 35, descriptorIndex := 26, attributes := #[] }, { accessFlags := 0, nameIndex := 38, descriptorIndex := 26, attributes := #[] }, { accessFlags := 0, nameIndex := 41, descriptorIndex := 22, attributes := #[] }, { accessFlags := 0, nameIndex := 44, descriptorIndex := 26, attributes := #[] }, { accessFlags := 0, nameIndex := 47, descriptorIndex := 18, attributes := #[] }])
  fields := #[{ name := "POSITIONS", type := .int, accessFlags := 24, slot := 0, constantValue := 0 }, { name := "OFFSETS", type := .int, accessFlags := 24, slot := 1, constantValue := 0 }, { name := "PAYLOADS", type := .int, accessFlags := 24, slot := 2, constantValue := 0 }, { name := "documentViews", type := (.array (.object "com/example/codicil/codicil/stored/TermVectorViews$DocumentView")), accessFlags := 18, slot := 0, constantValue := 0 }, { name := "run", type := (.object "com/example/codicil/codicil/store/RunList"), accessFlags := 18, slot := 1, constantValue := 0 }, { name := "fieldViews", type := (.array (.object "com/example/codicil/codicil/stored/TermVectorViews$FieldView")), accessFlags := 2, slot := 2, constantValue := 0 }, { name := "termBytes", type := (.array .byte), accessFlags := 0, slot := 3, constantValue := 0 }, { name := "termStarts", type := (.array .int), accessFlags := 0, slot := 4, constantValue := 0 }, { name := "frequencies", type := (.array .long), accessFlags := 0, slot := 5, constantValue := 0 }, { name := "occurrenceStarts", type := (.array .int), accessFlags := 0, slot := 6, constantValue := 0 }, { name := "positions", type := (.array .long), accessFlags := 0, slot := 7, constantValue := 0 }, { name := "startOffsets", type := (.array .long), accessFlags := 0, slot := 8, constantValue := 0 }, { name := "endOffsets", type := (.array .long), accessFlags := 0, slot := 9, constantValue := 0 }, { name := "payloadStarts", type := (.array .int), accessFlags := 0, slot := 10, constantValue := 0 }, { name := "payloadLengths", type := (.array .long), accessFlags := 0, slot := 11, constantValue := 0 }, { name := "payloadBytes", type := (.array .byte), accessFlags := 0, slot := 12, constantValue := 0 }]
  methods := #[k2m0]
  instanceTypes := #[(.array (.object "com/example/codicil/codicil/stored/TermVectorViews$DocumentView")), (.object "com/example/codicil/codicil/store/RunList"), (.array (.object "com/example/codicil/codicil/stored/TermVectorViews$FieldView")), (.array .byte), (.array .int), (.array .long), (.array .int), (.array .long), (.array .long), (.array .long), (.array .int), (.array .long), (.array .byte)]
  staticTypes := #[.int, .int, .int]
  resolved := Array.replicate 150 none
  statics := none }

def pool3 : Array CpInfo := pool [(1, u "java/lang/Cloneable"), (0, .class_ 1), (0, u "java/lang/Object"), (0, .class_ 3)] 3

/-- java/lang/Cloneable -/
def k3 : Class := { plain "java/lang/Cloneable" (some 0) with
  accessFlags := 1537
  interfaces := #[]
  cf := some (fileOf pool3 2 #[] #[] 1537 4 #[] #[])
  fields := #[]
  methods := #[]
  instanceTypes := #[]
  staticTypes := #[]
  resolved := Array.replicate 8 none
  statics := none }

def pool4 : Array CpInfo := pool [(1, u "java/io/Serializable"), (0, .class_ 1), (0, u "java/lang/Object"), (0, .class_ 3)] 3

/-- java/io/Serializable -/
def k4 : Class := { plain "java/io/Serializable" (some 0) with
  accessFlags := 1537
  interfaces := #[]
  cf := some (fileOf pool4 2 #[] #[] 1537 4 #[] #[])
  fields := #[]
  methods := #[]
  instanceTypes := #[]
  staticTypes := #[]
  resolved := Array.replicate 8 none
  statics := none }

/-- the primitive byte -/
def k5 : Class := { plain "byte" none with kind := .primitive 'B', accessFlags := 0x411 }
/-- [B -/
def k6 : Class := { plain "[B" (some 0) with kind := .array 5 .byte, interfaces := #[3, 4], accessFlags := 1041 }

def heap : Heap := #[]
def classes : Array Class := #[k0, k1, k2, k3, k4, k5, k6]
def interned : List (Array UInt16 × Addr) := []
def slotsUsed : Nat := 0
def theMethod : MethodId := ⟨1, 1⟩
def args0 : Array Value := #[.int 5, .int 3, .long 2, .int 0]
def aboutOver (below : List Frame) : State where
  vm := { classes := classes, interned := interned.toArray }
  heap := heap
  slotsUsed := slotsUsed
  threads := #[{ frames := .invoking theMethod args0 :: below }]
def below0 : List Frame := [.native { method := ⟨0, 0⟩, args := #[] }]
def about1 : State := aboutOver below0
def p0 : Program := .bare "" "" ""
def e0 : Env := launch0.env 0 0 0
theorem w_frames : about1.frames = Frame.invoking theMethod args0 :: below0 := rfl
set_option maxRecDepth 65536 in
theorem w_args : argsFit about1.vm theMethod args0 = true := by decide +kernel
set_option maxRecDepth 65536 in
theorem w_heap : heapFits about1 = true := by decide +kernel
set_option maxRecDepth 65536 in
theorem w_runnable : about1.curStatus? = some .runnable := by decide +kernel
set_option maxRecDepth 65536 in
theorem w_alone : about1.alone = true := by decide +kernel
set_option maxRecDepth 65536 in
theorem w_named : about1.methodNamed? x = some theMethod := by decide +kernel
set_option maxRecDepth 65536 in
theorem w_hears : about1.hears theMethod below0 = true := by decide +kernel
set_option maxRecDepth 65536 in
theorem w_ripe : about1.ripe theMethod args0 below0 = true := by decide +kernel
theorem w_running : about1.status = .running := rfl
set_option maxRecDepth 65536 in
theorem w_room : about1.hasRoom e0.platform room_1 = true :=
  launch0.hasRoom_least _ room_1 (by decide +kernel) (by decide +kernel) (by decide +kernel) (by decide +kernel) (by decide +kernel) (by decide +kernel)
theorem allAtoms_all (ts : List Jvm.Cond) (a : Array Jvm.Value) (st : Jvm.State) : (allAtoms ts).before a st = ts.all (fun c => c.before a st) := by
  induction ts with
  | nil => rfl
  | cons c t ih =>
    show (Jvm.Cond.and c (allAtoms t)).before a st = _
    rw [Jvm.Cond.before_and, ih, List.all_cons]
def words1 : List Jvm.Cond := Jvm.Cond.code x code maxLocals ret :: tables_1
/-- a 'code' word, met by the world's own term for the bytes: nothing is compared byte by byte -/
theorem code_word {y : MethodName} {bytes : ByteArray} {mx : Nat} {rt : Option FieldType} {a : Array Value} {s : State} {m : MethodId} {meth : Method} {c : Code} (h1 : s.methodNamed? y = some m) (h2 : s.vm.method? m = some meth) (h3 : meth.code = some c) (h4 : c.code = bytes)
    (h5 : (c.maxLocals == mx && c.exceptionTable.isEmpty && decide (c.maxStack ≤ mostOperands) && decide (meth.sig.returnType = rt) && !meth.locks && decide (parseMethodDescriptor y.desc = some meth.sig)) = true) : (Jvm.Cond.code y bytes mx rt).before a s = true := by
  simp only [Bool.and_eq_true, beq_iff_eq, Bool.not_eq_true', decide_eq_true_eq] at h5
  obtain ⟨⟨⟨⟨⟨g1, g2⟩, g3⟩, g4⟩, g5⟩, g6⟩ := h5
  simp [Cond.before, Cond.holds, Cond.value, h1, h2, h3, h4, g1, g2, g3, g4, g5, g6]
def isCode : Jvm.Cond → Bool
  | .code _ _ _ _ => true
  | _ => false
theorem all_split {L : List Jvm.Cond} {P : Jvm.Cond → Bool} (h1 : L.all (fun c => isCode c || P c) = true) (h2 : ∀ c ∈ L.filter isCode, P c = true) : L.all P = true := by
  refine List.all_eq_true.mpr fun c hc => ?_
  have h := List.all_eq_true.mp h1 c hc
  rcases Bool.eq_false_or_eq_true (isCode c) with hi | hi
  · exact h2 c (List.mem_filter.mpr ⟨hc, hi⟩)
  · simpa [hi] using h
set_option maxRecDepth 65536 in
theorem w_c0 : (Jvm.Cond.code x code maxLocals ret).before args0 about1 = true := code_word (m := ⟨1, 1⟩) (meth := k1m1) (c := k1c1) (by decide +kernel) rfl rfl rfl (by decide +kernel)
set_option maxRecDepth 65536 in
theorem w_c1 : (Jvm.Cond.code ({ cls := "com/example/codicil/codicil/stored/TermVectorViews", name := "addWithinInt32", desc := "(JJJ)J" } : Jvm.MethodName) prog_175_method_7_code (6 : Nat) (Option.some Jvm.ClassFile.FieldType.long)).before args0 about1 = true := code_word (m := ⟨2, 0⟩) (meth := k2m0) (c := k2c0) (by decide +kernel) rfl rfl rfl (by decide +kernel)
def codes1 : List Jvm.Cond := [Jvm.Cond.code x code maxLocals ret, Jvm.Cond.code ({ cls := "com/example/codicil/codicil/stored/TermVectorViews", name := "addWithinInt32", desc := "(JJJ)J" } : Jvm.MethodName) prog_175_method_7_code (6 : Nat) (Option.some Jvm.ClassFile.FieldType.long)]
set_option maxRecDepth 65536 in
theorem codes_eq : words1.filter isCode = codes1 := rfl
theorem w_codes : ∀ c ∈ words1.filter isCode, c.before args0 about1 = true := by
  rw [codes_eq]
  intro c hc
  simp only [codes1, List.mem_cons, List.not_mem_nil, or_false] at hc
  rcases hc with rfl | rfl
  · exact w_c0
  · exact w_c1
set_option maxRecDepth 65536 in
theorem w_t1 : words1.all (fun c => isCode c || c.before args0 about1) = true := by decide +kernel
theorem w_tables : (allAtoms (Jvm.Cond.code x code maxLocals ret :: tables_1)).before args0 about1 = true := by
  rw [allAtoms_all]
  show words1.all (fun c => c.before args0 about1) = true
  refine all_split ?_ w_codes
  rw [w_t1]
set_option maxRecDepth 65536 in
theorem w_case : (Jvm.Cond.and given_1 narrow_1).before args0 about1 = true := by decide +kernel
theorem w_applies : (headSpec (Jvm.Cond.code x code maxLocals ret :: tables_1) room_1).applies x e0.platform about1 = true :=
  (Spec.applies_iff w_frames).mpr ⟨w_running, w_runnable, w_alone, w_named, w_hears, w_ripe, w_room, w_tables⟩
theorem atStart : AtStart classFile x code maxLocals ret World_1 tables_1 room_1 Calls_1 rest_1 Pre_1 launch0 p0 e0 about1 theMethod args0 below0 :=
  ⟨lists_1, trivial, launch0.admits_env _ _ _, launch0.least_env, fairChoices_fair.cas, fairChoices_fair.clock, w_frames, w_args, w_heap, w_applies, trivial, trivial, w_case⟩
end start1
theorem witness_1 : WitnessClaimed_1 := ⟨start1.p0, start1.e0, start1.about1, start1.theMethod, start1.args0, start1.below0, start1.atStart⟩
end Jvm.Pilot.@@N@@
