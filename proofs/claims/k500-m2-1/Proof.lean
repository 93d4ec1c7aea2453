import JvmDerived
import JvmDerived.Pilot.@@N@@Statement
import JvmDerived.Pilot.@@N@@Code
set_option linter.unusedVariables false
set_option linter.unusedSimpArgs false
namespace Jvm.RoadKit
open Sem ClassFile Op Lib Jvm.Stand Jvm.Free Jvm.LawKit
section New
variable {p : Program} {l : Launch} {e : Env} {R : Room} {s : State} {m : MethodId} {args : Array Value} {below : List Frame} {meth : Method} {c : Code} {T : State} {locs : List Loc} {cells slots : Nat}
theorem retI (X : Stand p l e R s m args below meth c T locs cells slots) (hx : p.tables.exec = Jvm.exec) {pc : Nat} {Ls : Array Slot} {z : Int32} {rest : List Value} (hret : meth.sig.returnType = some .int) (hd : decode c.code pc = .ok (.ireturn, 1)) {fs : List Frame}
    (hl : ∀ (f : JFrame) (acts : List Action), f.method = m → f.locked = none → f.entered = [] → (doReturn e (T.setTop f) acts (some (.int z))).1 = T.setFrames fs) : Steps p.tables e below (T.setTop (mkF m pc Ls (.int z :: rest))) (T.setFrames fs) := by
  have hm' : T.vm.method? m = some meth := X.method'
  have hn : narrow .int (.int z) = .int z := rfl
  show Steps p.tables e below (T.setTop { method := m, pc := pc, locals := Ls, stack := _ :: rest, locked := none }) _
  jvm_step X.here [X.here.top, hx, hd, hm', hret, hn]
  first | (intro acts; rw [hl _ acts rfl rfl rfl]) | rw [hl _ _ rfl rfl rfl]
  exact Steps.refl _
end New
end Jvm.RoadKit
namespace Jvm.Pilot.@@N@@
open Jvm Jvm.ClassFile Sem Op Lib Jvm.Free Jvm.Stand Jvm.LawKit Jvm.RoadKit Bundle Jvm.Pilot.@@N@@.Jvm.D
def own_irem (a b : Int32) : Int32 := a - (a / b) * b
def own_lrem (a b : Int64) : Int64 := a - (a / b) * b
theorem d1_0 : decode prog_40_method_4_code 0 = .ok (.lload_n 0, 1) := by decide +kernel
theorem d1_1 : decode prog_40_method_4_code 1 = .ok (.ldc2_w 41, 3) := by decide +kernel
theorem d1_4 : decode prog_40_method_4_code 4 = .ok (.lcmp, 1) := by decide +kernel
theorem d1_5 : decode prog_40_method_4_code 5 = .ok (.ifCond .gt 7, 3) := by decide +kernel
theorem d1_8 : decode prog_40_method_4_code 8 = .ok (.lload_n 0, 1) := by decide +kernel
theorem d1_9 : decode prog_40_method_4_code 9 = .ok (.goto 18, 3) := by decide +kernel
theorem d1_12 : decode prog_40_method_4_code 12 = .ok (.lload_n 0, 1) := by decide +kernel
theorem d1_13 : decode prog_40_method_4_code 13 = .ok (.ldc2_w 43, 3) := by decide +kernel
theorem d1_16 : decode prog_40_method_4_code 16 = .ok (.ladd, 1) := by decide +kernel
theorem d1_17 : decode prog_40_method_4_code 17 = .ok (.lconst 1, 1) := by decide +kernel
theorem d1_18 : decode prog_40_method_4_code 18 = .ok (.lsub, 1) := by decide +kernel
theorem d1_19 : decode prog_40_method_4_code 19 = .ok (.ldc2_w 43, 3) := by decide +kernel
theorem d1_22 : decode prog_40_method_4_code 22 = .ok (.ldiv, 1) := by decide +kernel
theorem d1_23 : decode prog_40_method_4_code 23 = .ok (.ldc2_w 43, 3) := by decide +kernel
theorem d1_26 : decode prog_40_method_4_code 26 = .ok (.lmul, 1) := by decide +kernel
theorem d1_27 : decode prog_40_method_4_code 27 = .ok (.lreturn, 1) := by decide +kernel
theorem pn_1 : plainName "com/example/stochist/stochist/input/ItemLimit" = true := by first | (simp [plainName, overriddenIn]; done) | decide +kernel
theorem ef_rm1 (m : MethodId) (q0 : Int64) : entryFrame m #[(.long q0)] 2 = mkF m 0 #[.val (.long q0), .second] [] := by first | (simp [entryFrame, mkF, argsToLocals, Value.category]; done) | rfl
def own_f1 (q0 : Int64) : Int64 :=
  if (524288 : Int64) < q0 then ((((q0 + (1048576 : Int64)) - (1 : Int64)) / (1048576 : Int64)) * (1048576 : Int64))
  else q0
def rm1Q (Z : State) (q0 : Int64) (h0 : Heap) (n0 : Nat) (v : Option Value) (h : Heap) (L : List Loc) : Prop := v = some (.long (own_f1 q0)) ∧ Fr n0 L ∧ h = h0
set_option maxRecDepth 65536 in
set_option maxHeartbeats 40000000 in
theorem rm1 (l : Launch) (Z : State) (aw : Array Value) (hw : ∀ d ∈ tables_1, d.before aw Z = true) (ws : List Jvm.Cond) (q0 : Int64) (h0 : Heap) (n0 : Nat) (Z0 : n0 ≤ h0.size) :
    MetFree l (⟨"com/example/stochist/stochist/input/ItemLimit", "arrayBytes", "(J)J"⟩ : MethodName) (head1 (Jvm.Cond.code (⟨"com/example/stochist/stochist/input/ItemLimit", "arrayBytes", "(J)J"⟩ : MethodName) prog_40_method_4_code 2 (some .long) :: ws) ({ frames := 0, cells := 0, slots := 0, locals := 0 } : Room)) (fun a U => a = #[(.long q0)] ∧ Z.Warmed39 U.vm ∧ U.heap = h0) (fun _ _ _ _ _ => True) (fun _ U o U' => ∃ v L, o = .returned v ∧ rm1Q Z q0 h0 n0 v U'.heap L ∧ FrameEnd U o U' L ({ frames := 0, cells := 0, slots := 0, locals := 0 } : Room).cells ({ frames := 0, cells := 0, slots := 0, locals := 0 } : Room).slots) := by
  refine MetFree.of_bodySF (plainFor_of_name pn_1) hisR ?_
  intro p e s m args below meth c s₁ Bd hml0 hP hK
  obtain ⟨rfl, hZ, hh⟩ := hP
  have hx := Bd.exec
  have hby := Bd.bytes
  have hml : c.maxLocals = 2 := hml0
  have hown : s.vm.findClass "com/example/stochist/stochist/input/ItemLimit" = some m.cls := findClass_of_methodNamed Bd.named
  have hnm := (name_of_methodNamed Bd.named Bd.method).1
  have X0 : Stand p l e ({ frames := 0, cells := 0, slots := 0, locals := 0 } : Room) s m #[(.long q0)] below meth c s₁ [] 0 0 := Stand.of_body Bd
  have e0 : s₁.heap = h0 := by rw [← hh, Bd.state]; rfl
  have N0 := Fr.nil n0
  have pre0 : ∀ t, Steps p.tables e below (s₁.setTop (mkF m 0 #[.val (.long q0), .second] [])) t → Steps p.tables e below (s₁.setTop (entryFrame m #[(.long q0)] 2)) t := fun t k => castTop (ef_rm1 m q0) k
  have pre1 : ∀ t, Steps p.tables e below (s₁.setTop (mkF m 5 #[.val (.long q0), .second] [(.int (lcmpW q0 (524288 : Int64)))])) t → Steps p.tables e below (s₁.setTop (entryFrame m #[(.long q0)] 2)) t := fun t k => pre0 t (by
    show Steps p.tables e below (s₁.setTop (mkF m 0 #[.val (.long q0), .second] [])) _
    refine XS.lloadN X0.here hx rfl (hb hby d1_0) rfl ?_
    show Steps p.tables e below (s₁.setTop (mkF m 1 #[.val (.long q0), .second] [(.long q0)])) _
    refine X0.ldc2Long hx hown (mvT hZ (hw _ (List.mem_of_getElem? (i := 6) rfl))) (g := (mkF m 1 #[.val (.long q0), .second] [(.long q0)])) rfl (hb hby d1_1) _ ?_
    show Steps p.tables e below (s₁.setTop (mkF m 4 #[.val (.long q0), .second] [(.long (524288 : Int64)), (.long q0)])) _
    refine XS.lcmp X0.here hx rfl (hb hby d1_4) rfl ?_
    exact k)
  by_cases hc5_2 : (524288 : Int64) < q0
  · obtain ⟨fs, hr, hrun, hended, hW, hsame⟩ := X0.leave (v := some (.long ((((q0 + (1048576 : Int64)) - (1 : Int64)) / (1048576 : Int64)) * (1048576 : Int64)))) (fun h => by rw [Bd.returns] at h; cases h)
    refine ⟨_, _, pre1 _ ?_, hrun, hended, _, _, rfl, ?_, ⟨_, rfl⟩, hW, hsame.mono (by decide) (by decide)⟩
    · show Steps p.tables e below (s₁.setTop (mkF m 5 #[.val (.long q0), .second] [(.int (lcmpW q0 (524288 : Int64)))])) _
      refine XS.ifYes X0.here hx rfl (pc0 := 5) (pc' := 12) rfl (hb hby d1_5) rfl ((if0 _ _).trans (tlt ((lw_gt _ _).mpr hc5_2)).2.2.1) (by decide) (by decide) ?_
      show Steps p.tables e below (s₁.setTop (mkF m 12 #[.val (.long q0), .second] [])) _
      refine XS.lloadN X0.here hx rfl (hb hby d1_12) rfl ?_
      show Steps p.tables e below (s₁.setTop (mkF m 13 #[.val (.long q0), .second] [(.long q0)])) _
      refine X0.ldc2Long hx hown (mvT hZ (hw _ (List.mem_of_getElem? (i := 7) rfl))) (g := (mkF m 13 #[.val (.long q0), .second] [(.long q0)])) rfl (hb hby d1_13) _ ?_
      show Steps p.tables e below (s₁.setTop (mkF m 16 #[.val (.long q0), .second] [(.long (1048576 : Int64)), (.long q0)])) _
      refine XS.ladd X0.here hx rfl (hb hby d1_16) rfl ?_
      show Steps p.tables e below (s₁.setTop (mkF m 17 #[.val (.long q0), .second] [(.long (q0 + (1048576 : Int64)))])) _
      refine XS.lconst X0.here hx rfl (hb hby d1_17) ?_
      show Steps p.tables e below (s₁.setTop (mkF m 18 #[.val (.long q0), .second] [(.long (1 : Int64)), (.long (q0 + (1048576 : Int64)))])) _
      refine XS.lsub X0.here hx rfl (hb hby d1_18) rfl ?_
      show Steps p.tables e below (s₁.setTop (mkF m 19 #[.val (.long q0), .second] [(.long ((q0 + (1048576 : Int64)) - (1 : Int64)))])) _
      refine X0.ldc2Long hx hown (mvT hZ (hw _ (List.mem_of_getElem? (i := 7) rfl))) (g := (mkF m 19 #[.val (.long q0), .second] [(.long ((q0 + (1048576 : Int64)) - (1 : Int64)))])) rfl (hb hby d1_19) _ ?_
      show Steps p.tables e below (s₁.setTop (mkF m 22 #[.val (.long q0), .second] [(.long (1048576 : Int64)), (.long ((q0 + (1048576 : Int64)) - (1 : Int64)))])) _
      refine XS.ldiv X0.here hx rfl (hb hby d1_22) rfl (by decide) ?_
      show Steps p.tables e below (s₁.setTop (mkF m 23 #[.val (.long q0), .second] [(.long (((q0 + (1048576 : Int64)) - (1 : Int64)) / (1048576 : Int64)))])) _
      refine X0.ldc2Long hx hown (mvT hZ (hw _ (List.mem_of_getElem? (i := 7) rfl))) (g := (mkF m 23 #[.val (.long q0), .second] [(.long (((q0 + (1048576 : Int64)) - (1 : Int64)) / (1048576 : Int64)))])) rfl (hb hby d1_23) _ ?_
      show Steps p.tables e below (s₁.setTop (mkF m 26 #[.val (.long q0), .second] [(.long (1048576 : Int64)), (.long (((q0 + (1048576 : Int64)) - (1 : Int64)) / (1048576 : Int64)))])) _
      refine XS.lmul X0.here hx rfl (hb hby d1_26) rfl ?_
      show Steps p.tables e below (s₁.setTop (mkF m 27 #[.val (.long q0), .second] [(.long ((((q0 + (1048576 : Int64)) - (1 : Int64)) / (1048576 : Int64)) * (1048576 : Int64)))])) _
      jvm_step X0.here [X0.here.top, hx, (hb hby d1_27), X0.method', Bd.returns, narrow]
      first | (intro acts; rw [hr _ acts rfl rfl rfl]) | rw [hr _ _ rfl rfl rfl]
      exact Steps.refl _
    · show rm1Q Z q0 h0 n0 _ s₁.heap _
      rw [e0]
      have hres : own_f1 q0 = ((((q0 + (1048576 : Int64)) - (1 : Int64)) / (1048576 : Int64)) * (1048576 : Int64)) := by
        simp only [own_f1, if_pos hc5_2]
      exact ⟨by rw [hres], N0, rfl⟩
  · obtain ⟨fs, hr, hrun, hended, hW, hsame⟩ := X0.leave (v := some (.long q0)) (fun h => by rw [Bd.returns] at h; cases h)
    refine ⟨_, _, pre1 _ ?_, hrun, hended, _, _, rfl, ?_, ⟨_, rfl⟩, hW, hsame.mono (by decide) (by decide)⟩
    · show Steps p.tables e below (s₁.setTop (mkF m 5 #[.val (.long q0), .second] [(.int (lcmpW q0 (524288 : Int64)))])) _
      refine XS.ifNo X0.here hx rfl (hb hby d1_5) rfl ((if0 _ _).trans (flt (fun q => hc5_2 ((lw_gt _ _).mp q))).2.2.1) ?_
      show Steps p.tables e below (s₁.setTop (mkF m 8 #[.val (.long q0), .second] [])) _
      refine XS.lloadN X0.here hx rfl (hb hby d1_8) rfl ?_
      show Steps p.tables e below (s₁.setTop (mkF m 9 #[.val (.long q0), .second] [(.long q0)])) _
      refine XS.goto X0.here hx rfl (pc0 := 9) (pc' := 27) rfl (hb hby d1_9) (by decide) (by decide) ?_
      show Steps p.tables e below (s₁.setTop (mkF m 27 #[.val (.long q0), .second] [(.long q0)])) _
      jvm_step X0.here [X0.here.top, hx, (hb hby d1_27), X0.method', Bd.returns, narrow]
      first | (intro acts; rw [hr _ acts rfl rfl rfl]) | rw [hr _ _ rfl rfl rfl]
      exact Steps.refl _
    · show rm1Q Z q0 h0 n0 _ s₁.heap _
      rw [e0]
      have hres : own_f1 q0 = q0 := by
        simp only [own_f1, if_neg hc5_2]
      exact ⟨by rw [hres], N0, rfl⟩
theorem pn_0 : plainName "com/example/stochist/stochist/input/ItemLimitArrayBytesPinLaw" = true := by first | (simp [plainName, overriddenIn]; done) | decide +kernel
theorem pd_rm0_0 : parseMethodDescriptor "(J)J" = some ⟨[.long], some .long⟩ := by decide +kernel
theorem ef_rm0 (m : MethodId) (q0 : Int64) (p1 : Int32) (p2 : Int32) : entryFrame m #[(.long q0), (.int p1), (.int p2)] maxLocals = mkF m 0 #[.val (.long q0), .second, .val (.int p1), .val (.int p2), .unset, .unset, .unset, .unset, .unset, .unset, .unset, .unset, .unset] [] := by first | (simp [entryFrame, mkF, argsToLocals, Value.category, maxLocals]; done) | rfl
def own_bytes (q0 : Int64) (p1 : Int32) (p2 : Int32) : Int64 :=
  if (p2 &&& (3 : Int32)) = (0 : Int32) then (q0 &&& (4611686018427387903 : Int64))
  else (if (p2 &&& (3 : Int32)) = (1 : Int32) then ((524288 : Int64) + ((own_irem p1 (4096 : Int32)).toInt64))
  else (if (p2 &&& (3 : Int32)) = (2 : Int32) then ((((p1 &&& (1048575 : Int32)).toInt64) * (1048576 : Int64)) + (own_lrem q0 (5 : Int64)))
  else (q0 ||| (-9223372036854775808 : Int64))))
def own_f0 (q0 : Int64) (p1 : Int32) (p2 : Int32) : Int32 :=
  if (524288 : Int64) < (own_bytes q0 p1 p2) then (if (own_f1 (own_bytes q0 p1 p2)) < (own_bytes q0 p1 p2) then (0 : Int32)
    else (if ((own_f1 (own_bytes q0 p1 p2)) - (own_bytes q0 p1 p2)) < (1048576 : Int64) then (if (own_lrem (own_f1 (own_bytes q0 p1 p2)) (1048576 : Int64)) = (0 : Int64) then (1 : Int32)
      else (0 : Int32))
    else (0 : Int32)))
  else (if (own_f1 (own_bytes q0 p1 p2)) = (own_bytes q0 p1 p2) then (1 : Int32)
  else (0 : Int32))
def rm0Q (Z : State) (q0 : Int64) (p1 : Int32) (p2 : Int32) (h0 : Heap) (n0 : Nat) (v : Option Value) (h : Heap) (L : List Loc) : Prop := v = some (.int (own_f0 q0 p1 p2)) ∧ Fr n0 L ∧ h = h0
set_option maxRecDepth 65536 in
set_option maxHeartbeats 40000000 in
theorem rm0 (l : Launch) (Z : State) (aw : Array Value) (hw : ∀ d ∈ tables_1, d.before aw Z = true) (ws : List Jvm.Cond) (q0 : Int64) (p1 : Int32) (p2 : Int32) (h0 : Heap) (n0 : Nat) (Z0 : n0 ≤ h0.size) :
    MetFree l x (head1 (Jvm.Cond.code x code maxLocals ret :: ws) room_1) (fun a U => a = #[(.long q0), (.int p1), (.int p2)] ∧ Z.Warmed39 U.vm ∧ U.heap = h0) (fun _ _ _ _ _ => True) (fun _ U o U' => ∃ v L, o = .returned v ∧ rm0Q Z q0 p1 p2 h0 n0 v U'.heap L ∧ FrameEnd U o U' L room_1.cells room_1.slots) := by
  refine MetFree.of_bodySF (plainFor_of_name pn_0) hisR ?_
  intro p e s m args below meth c s₁ Bd hml0 hP hK
  obtain ⟨rfl, hZ, hh⟩ := hP
  have hx := Bd.exec
  have hby := Bd.bytes
  have hml : c.maxLocals = 13 := hml0
  have hown : s.vm.findClass "com/example/stochist/stochist/input/ItemLimitArrayBytesPinLaw" = some m.cls := findClass_of_methodNamed Bd.named
  have hnm := (name_of_methodNamed Bd.named Bd.method).1
  have X0 : Stand p l e room_1 s m #[(.long q0), (.int p1), (.int p2)] below meth c s₁ [] 0 0 := Stand.of_body Bd
  have e0 : s₁.heap = h0 := by rw [← hh, Bd.state]; rfl
  have N0 := Fr.nil n0
  have pre0 : ∀ t, Steps p.tables e below (s₁.setTop (mkF m 0 #[.val (.long q0), .second, .val (.int p1), .val (.int p2), .unset, .unset, .unset, .unset, .unset, .unset, .unset, .unset, .unset] [])) t → Steps p.tables e below (s₁.setTop (entryFrame m #[(.long q0), (.int p1), (.int p2)] maxLocals)) t := fun t k => castTop (ef_rm0 m q0 p1 p2) k
  have pre1 : ∀ t, Steps p.tables e below (s₁.setTop (mkF m 17 #[.val (.long q0), .second, .val (.int p1), .val (.int p2), .val (.long (1048576 : Int64)), .second, .val (.long (524288 : Int64)), .second, .val (.int (p2 &&& (3 : Int32))), .unset, .unset, .unset, .unset] [(.int (p2 &&& (3 : Int32)))])) t → Steps p.tables e below (s₁.setTop (entryFrame m #[(.long q0), (.int p1), (.int p2)] maxLocals)) t := fun t k => pre0 t (by
    show Steps p.tables e below (s₁.setTop (mkF m 0 #[.val (.long q0), .second, .val (.int p1), .val (.int p2), .unset, .unset, .unset, .unset, .unset, .unset, .unset, .unset, .unset] [])) _
    refine X0.ldc2Long hx hown (mvT hZ (hw _ (List.mem_of_getElem? (i := 0) rfl))) (g := (mkF m 0 #[.val (.long q0), .second, .val (.int p1), .val (.int p2), .unset, .unset, .unset, .unset, .unset, .unset, .unset, .unset, .unset] [])) rfl (hb hby at_0) _ ?_
    show Steps p.tables e below (s₁.setTop (mkF m 3 #[.val (.long q0), .second, .val (.int p1), .val (.int p2), .unset, .unset, .unset, .unset, .unset, .unset, .unset, .unset, .unset] [(.long (1048576 : Int64))])) _
    refine XS.lstore X0.here hx rfl (hb hby at_3) rfl (l' := #[.val (.long q0), .second, .val (.int p1), .val (.int p2), .val (.long (1048576 : Int64)), .second, .unset, .unset, .unset, .unset, .unset, .unset, .unset]) rfl ?_
    show Steps p.tables e below (s₁.setTop (mkF m 5 #[.val (.long q0), .second, .val (.int p1), .val (.int p2), .val (.long (1048576 : Int64)), .second, .unset, .unset, .unset, .unset, .unset, .unset, .unset] [])) _
    refine X0.ldc2Long hx hown (mvT hZ (hw _ (List.mem_of_getElem? (i := 1) rfl))) (g := (mkF m 5 #[.val (.long q0), .second, .val (.int p1), .val (.int p2), .val (.long (1048576 : Int64)), .second, .unset, .unset, .unset, .unset, .unset, .unset, .unset] [])) rfl (hb hby at_5) _ ?_
    show Steps p.tables e below (s₁.setTop (mkF m 8 #[.val (.long q0), .second, .val (.int p1), .val (.int p2), .val (.long (1048576 : Int64)), .second, .unset, .unset, .unset, .unset, .unset, .unset, .unset] [(.long (524288 : Int64))])) _
    refine XS.lstore X0.here hx rfl (hb hby at_8) rfl (l' := #[.val (.long q0), .second, .val (.int p1), .val (.int p2), .val (.long (1048576 : Int64)), .second, .val (.long (524288 : Int64)), .second, .unset, .unset, .unset, .unset, .unset]) rfl ?_
    show Steps p.tables e below (s₁.setTop (mkF m 10 #[.val (.long q0), .second, .val (.int p1), .val (.int p2), .val (.long (1048576 : Int64)), .second, .val (.long (524288 : Int64)), .second, .unset, .unset, .unset, .unset, .unset] [])) _
    refine XS.iloadN X0.here hx rfl (hb hby at_10) rfl ?_
    show Steps p.tables e below (s₁.setTop (mkF m 11 #[.val (.long q0), .second, .val (.int p1), .val (.int p2), .val (.long (1048576 : Int64)), .second, .val (.long (524288 : Int64)), .second, .unset, .unset, .unset, .unset, .unset] [(.int p2)])) _
    refine XS.iconst X0.here hx rfl (hb hby at_11) ?_
    show Steps p.tables e below (s₁.setTop (mkF m 12 #[.val (.long q0), .second, .val (.int p1), .val (.int p2), .val (.long (1048576 : Int64)), .second, .val (.long (524288 : Int64)), .second, .unset, .unset, .unset, .unset, .unset] [(.int (3 : Int32)), (.int p2)])) _
    refine XS.iand X0.here hx rfl (hb hby at_12) rfl ?_
    show Steps p.tables e below (s₁.setTop (mkF m 13 #[.val (.long q0), .second, .val (.int p1), .val (.int p2), .val (.long (1048576 : Int64)), .second, .val (.long (524288 : Int64)), .second, .unset, .unset, .unset, .unset, .unset] [(.int (p2 &&& (3 : Int32)))])) _
    refine XS.istore X0.here hx rfl (hb hby at_13) rfl (l' := #[.val (.long q0), .second, .val (.int p1), .val (.int p2), .val (.long (1048576 : Int64)), .second, .val (.long (524288 : Int64)), .second, .val (.int (p2 &&& (3 : Int32))), .unset, .unset, .unset, .unset]) rfl ?_
    show Steps p.tables e below (s₁.setTop (mkF m 15 #[.val (.long q0), .second, .val (.int p1), .val (.int p2), .val (.long (1048576 : Int64)), .second, .val (.long (524288 : Int64)), .second, .val (.int (p2 &&& (3 : Int32))), .unset, .unset, .unset, .unset] [])) _
    refine XS.iload X0.here hx rfl (hb hby at_15) rfl ?_
    exact k)
  have pre2 : ∀ t, Steps p.tables e below (s₁.setTop (mkF m 82 #[.val (.long q0), .second, .val (.int p1), .val (.int p2), .val (.long (1048576 : Int64)), .second, .val (.long (524288 : Int64)), .second, .val (.int (p2 &&& (3 : Int32))), .val (.long (own_bytes q0 p1 p2)), .second, .unset, .unset] [])) t → Steps p.tables e below (s₁.setTop (entryFrame m #[(.long q0), (.int p1), (.int p2)] maxLocals)) t := by
    by_cases hc17_3 : (p2 &&& (3 : Int32)) = (0 : Int32)
    · rw [show (own_bytes q0 p1 p2) = (q0 &&& (4611686018427387903 : Int64)) from by simp only [own_bytes, if_pos hc17_3]]
      exact fun t k => pre1 t (by
        show Steps p.tables e below (s₁.setTop (mkF m 17 #[.val (.long q0), .second, .val (.int p1), .val (.int p2), .val (.long (1048576 : Int64)), .second, .val (.long (524288 : Int64)), .second, .val (.int (p2 &&& (3 : Int32))), .unset, .unset, .unset, .unset] [(.int (p2 &&& (3 : Int32)))])) _
        refine XS.ifNo X0.here hx rfl (hb hby at_17) rfl ((if0 _ _).trans (teq hc17_3).2) ?_
        show Steps p.tables e below (s₁.setTop (mkF m 20 #[.val (.long q0), .second, .val (.int p1), .val (.int p2), .val (.long (1048576 : Int64)), .second, .val (.long (524288 : Int64)), .second, .val (.int (p2 &&& (3 : Int32))), .unset, .unset, .unset, .unset] [])) _
        refine XS.lloadN X0.here hx rfl (hb hby at_20) rfl ?_
        show Steps p.tables e below (s₁.setTop (mkF m 21 #[.val (.long q0), .second, .val (.int p1), .val (.int p2), .val (.long (1048576 : Int64)), .second, .val (.long (524288 : Int64)), .second, .val (.int (p2 &&& (3 : Int32))), .unset, .unset, .unset, .unset] [(.long q0)])) _
        refine X0.ldc2Long hx hown (mvT hZ (hw _ (List.mem_of_getElem? (i := 9) rfl))) (g := (mkF m 21 #[.val (.long q0), .second, .val (.int p1), .val (.int p2), .val (.long (1048576 : Int64)), .second, .val (.long (524288 : Int64)), .second, .val (.int (p2 &&& (3 : Int32))), .unset, .unset, .unset, .unset] [(.long q0)])) rfl (hb hby at_21) _ ?_
        show Steps p.tables e below (s₁.setTop (mkF m 24 #[.val (.long q0), .second, .val (.int p1), .val (.int p2), .val (.long (1048576 : Int64)), .second, .val (.long (524288 : Int64)), .second, .val (.int (p2 &&& (3 : Int32))), .unset, .unset, .unset, .unset] [(.long (4611686018427387903 : Int64)), (.long q0)])) _
        refine XS.land X0.here hx rfl (hb hby at_24) rfl ?_
        show Steps p.tables e below (s₁.setTop (mkF m 25 #[.val (.long q0), .second, .val (.int p1), .val (.int p2), .val (.long (1048576 : Int64)), .second, .val (.long (524288 : Int64)), .second, .val (.int (p2 &&& (3 : Int32))), .unset, .unset, .unset, .unset] [(.long (q0 &&& (4611686018427387903 : Int64)))])) _
        refine XS.lstore X0.here hx rfl (hb hby at_25) rfl (l' := #[.val (.long q0), .second, .val (.int p1), .val (.int p2), .val (.long (1048576 : Int64)), .second, .val (.long (524288 : Int64)), .second, .val (.int (p2 &&& (3 : Int32))), .val (.long (q0 &&& (4611686018427387903 : Int64))), .second, .unset, .unset]) rfl ?_
        show Steps p.tables e below (s₁.setTop (mkF m 27 #[.val (.long q0), .second, .val (.int p1), .val (.int p2), .val (.long (1048576 : Int64)), .second, .val (.long (524288 : Int64)), .second, .val (.int (p2 &&& (3 : Int32))), .val (.long (q0 &&& (4611686018427387903 : Int64))), .second, .unset, .unset] [])) _
        refine XS.goto X0.here hx rfl (pc0 := 27) (pc' := 82) rfl (hb hby at_27) (by decide) (by decide) ?_
        exact k)
    · have pre4 : ∀ t, Steps p.tables e below (s₁.setTop (mkF m 33 #[.val (.long q0), .second, .val (.int p1), .val (.int p2), .val (.long (1048576 : Int64)), .second, .val (.long (524288 : Int64)), .second, .val (.int (p2 &&& (3 : Int32))), .unset, .unset, .unset, .unset] [(.int (1 : Int32)), (.int (p2 &&& (3 : Int32)))])) t → Steps p.tables e below (s₁.setTop (entryFrame m #[(.long q0), (.int p1), (.int p2)] maxLocals)) t := fun t k => pre1 t (by
        show Steps p.tables e below (s₁.setTop (mkF m 17 #[.val (.long q0), .second, .val (.int p1), .val (.int p2), .val (.long (1048576 : Int64)), .second, .val (.long (524288 : Int64)), .second, .val (.int (p2 &&& (3 : Int32))), .unset, .unset, .unset, .unset] [(.int (p2 &&& (3 : Int32)))])) _
        refine XS.ifYes X0.here hx rfl (pc0 := 17) (pc' := 30) rfl (hb hby at_17) rfl ((if0 _ _).trans (feq hc17_3).2) (by decide) (by decide) ?_
        show Steps p.tables e below (s₁.setTop (mkF m 30 #[.val (.long q0), .second, .val (.int p1), .val (.int p2), .val (.long (1048576 : Int64)), .second, .val (.long (524288 : Int64)), .second, .val (.int (p2 &&& (3 : Int32))), .unset, .unset, .unset, .unset] [])) _
        refine XS.iload X0.here hx rfl (hb hby at_30) rfl ?_
        show Steps p.tables e below (s₁.setTop (mkF m 32 #[.val (.long q0), .second, .val (.int p1), .val (.int p2), .val (.long (1048576 : Int64)), .second, .val (.long (524288 : Int64)), .second, .val (.int (p2 &&& (3 : Int32))), .unset, .unset, .unset, .unset] [(.int (p2 &&& (3 : Int32)))])) _
        refine XS.iconst X0.here hx rfl (hb hby at_32) ?_
        exact k)
      by_cases hc33_5 : (p2 &&& (3 : Int32)) = (1 : Int32)
      · rw [show (own_bytes q0 p1 p2) = ((524288 : Int64) + ((own_irem p1 (4096 : Int32)).toInt64)) from by simp only [own_bytes, if_neg hc17_3, if_pos hc33_5]]
        exact fun t k => pre4 t (by
          show Steps p.tables e below (s₁.setTop (mkF m 33 #[.val (.long q0), .second, .val (.int p1), .val (.int p2), .val (.long (1048576 : Int64)), .second, .val (.long (524288 : Int64)), .second, .val (.int (p2 &&& (3 : Int32))), .unset, .unset, .unset, .unset] [(.int (1 : Int32)), (.int (p2 &&& (3 : Int32)))])) _
          refine XS.icmpNo X0.here hx rfl (hb hby at_33) rfl (teq hc33_5).2 ?_
          show Steps p.tables e below (s₁.setTop (mkF m 36 #[.val (.long q0), .second, .val (.int p1), .val (.int p2), .val (.long (1048576 : Int64)), .second, .val (.long (524288 : Int64)), .second, .val (.int (p2 &&& (3 : Int32))), .unset, .unset, .unset, .unset] [])) _
          refine XS.lload X0.here hx rfl (hb hby at_36) rfl ?_
          show Steps p.tables e below (s₁.setTop (mkF m 38 #[.val (.long q0), .second, .val (.int p1), .val (.int p2), .val (.long (1048576 : Int64)), .second, .val (.long (524288 : Int64)), .second, .val (.int (p2 &&& (3 : Int32))), .unset, .unset, .unset, .unset] [(.long (524288 : Int64))])) _
          refine XS.iloadN X0.here hx rfl (hb hby at_38) rfl ?_
          show Steps p.tables e below (s₁.setTop (mkF m 39 #[.val (.long q0), .second, .val (.int p1), .val (.int p2), .val (.long (1048576 : Int64)), .second, .val (.long (524288 : Int64)), .second, .val (.int (p2 &&& (3 : Int32))), .unset, .unset, .unset, .unset] [(.int p1), (.long (524288 : Int64))])) _
          refine XS.sipush X0.here hx rfl (hb hby at_39) ?_
          show Steps p.tables e below (s₁.setTop (mkF m 42 #[.val (.long q0), .second, .val (.int p1), .val (.int p2), .val (.long (1048576 : Int64)), .second, .val (.long (524288 : Int64)), .second, .val (.int (p2 &&& (3 : Int32))), .unset, .unset, .unset, .unset] [(.int (4096 : Int32)), (.int p1), (.long (524288 : Int64))])) _
          refine XS.irem X0.here hx rfl (hb hby at_42) rfl (by decide) ?_
          show Steps p.tables e below (s₁.setTop (mkF m 43 #[.val (.long q0), .second, .val (.int p1), .val (.int p2), .val (.long (1048576 : Int64)), .second, .val (.long (524288 : Int64)), .second, .val (.int (p2 &&& (3 : Int32))), .unset, .unset, .unset, .unset] [(.int (own_irem p1 (4096 : Int32))), (.long (524288 : Int64))])) _
          refine XS.i2l X0.here hx rfl (hb hby at_43) rfl ?_
          show Steps p.tables e below (s₁.setTop (mkF m 44 #[.val (.long q0), .second, .val (.int p1), .val (.int p2), .val (.long (1048576 : Int64)), .second, .val (.long (524288 : Int64)), .second, .val (.int (p2 &&& (3 : Int32))), .unset, .unset, .unset, .unset] [(.long ((own_irem p1 (4096 : Int32)).toInt64)), (.long (524288 : Int64))])) _
          refine XS.ladd X0.here hx rfl (hb hby at_44) rfl ?_
          show Steps p.tables e below (s₁.setTop (mkF m 45 #[.val (.long q0), .second, .val (.int p1), .val (.int p2), .val (.long (1048576 : Int64)), .second, .val (.long (524288 : Int64)), .second, .val (.int (p2 &&& (3 : Int32))), .unset, .unset, .unset, .unset] [(.long ((524288 : Int64) + ((own_irem p1 (4096 : Int32)).toInt64)))])) _
          refine XS.lstore X0.here hx rfl (hb hby at_45) rfl (l' := #[.val (.long q0), .second, .val (.int p1), .val (.int p2), .val (.long (1048576 : Int64)), .second, .val (.long (524288 : Int64)), .second, .val (.int (p2 &&& (3 : Int32))), .val (.long ((524288 : Int64) + ((own_irem p1 (4096 : Int32)).toInt64))), .second, .unset, .unset]) rfl ?_
          show Steps p.tables e below (s₁.setTop (mkF m 47 #[.val (.long q0), .second, .val (.int p1), .val (.int p2), .val (.long (1048576 : Int64)), .second, .val (.long (524288 : Int64)), .second, .val (.int (p2 &&& (3 : Int32))), .val (.long ((524288 : Int64) + ((own_irem p1 (4096 : Int32)).toInt64))), .second, .unset, .unset] [])) _
          refine XS.goto X0.here hx rfl (pc0 := 47) (pc' := 82) rfl (hb hby at_47) (by decide) (by decide) ?_
          exact k)
      · have pre6 : ∀ t, Steps p.tables e below (s₁.setTop (mkF m 53 #[.val (.long q0), .second, .val (.int p1), .val (.int p2), .val (.long (1048576 : Int64)), .second, .val (.long (524288 : Int64)), .second, .val (.int (p2 &&& (3 : Int32))), .unset, .unset, .unset, .unset] [(.int (2 : Int32)), (.int (p2 &&& (3 : Int32)))])) t → Steps p.tables e below (s₁.setTop (entryFrame m #[(.long q0), (.int p1), (.int p2)] maxLocals)) t := fun t k => pre4 t (by
          show Steps p.tables e below (s₁.setTop (mkF m 33 #[.val (.long q0), .second, .val (.int p1), .val (.int p2), .val (.long (1048576 : Int64)), .second, .val (.long (524288 : Int64)), .second, .val (.int (p2 &&& (3 : Int32))), .unset, .unset, .unset, .unset] [(.int (1 : Int32)), (.int (p2 &&& (3 : Int32)))])) _
          refine XS.icmpYes X0.here hx rfl (pc0 := 33) (pc' := 50) rfl (hb hby at_33) rfl (feq hc33_5).2 (by decide) (by decide) ?_
          show Steps p.tables e below (s₁.setTop (mkF m 50 #[.val (.long q0), .second, .val (.int p1), .val (.int p2), .val (.long (1048576 : Int64)), .second, .val (.long (524288 : Int64)), .second, .val (.int (p2 &&& (3 : Int32))), .unset, .unset, .unset, .unset] [])) _
          refine XS.iload X0.here hx rfl (hb hby at_50) rfl ?_
          show Steps p.tables e below (s₁.setTop (mkF m 52 #[.val (.long q0), .second, .val (.int p1), .val (.int p2), .val (.long (1048576 : Int64)), .second, .val (.long (524288 : Int64)), .second, .val (.int (p2 &&& (3 : Int32))), .unset, .unset, .unset, .unset] [(.int (p2 &&& (3 : Int32)))])) _
          refine XS.iconst X0.here hx rfl (hb hby at_52) ?_
          exact k)
        by_cases hc53_7 : (p2 &&& (3 : Int32)) = (2 : Int32)
        · rw [show (own_bytes q0 p1 p2) = ((((p1 &&& (1048575 : Int32)).toInt64) * (1048576 : Int64)) + (own_lrem q0 (5 : Int64))) from by simp only [own_bytes, if_neg hc17_3, if_neg hc33_5, if_pos hc53_7]]
          exact fun t k => pre6 t (by
            show Steps p.tables e below (s₁.setTop (mkF m 53 #[.val (.long q0), .second, .val (.int p1), .val (.int p2), .val (.long (1048576 : Int64)), .second, .val (.long (524288 : Int64)), .second, .val (.int (p2 &&& (3 : Int32))), .unset, .unset, .unset, .unset] [(.int (2 : Int32)), (.int (p2 &&& (3 : Int32)))])) _
            refine XS.icmpNo X0.here hx rfl (hb hby at_53) rfl (teq hc53_7).2 ?_
            show Steps p.tables e below (s₁.setTop (mkF m 56 #[.val (.long q0), .second, .val (.int p1), .val (.int p2), .val (.long (1048576 : Int64)), .second, .val (.long (524288 : Int64)), .second, .val (.int (p2 &&& (3 : Int32))), .unset, .unset, .unset, .unset] [])) _
            refine XS.iloadN X0.here hx rfl (hb hby at_56) rfl ?_
            show Steps p.tables e below (s₁.setTop (mkF m 57 #[.val (.long q0), .second, .val (.int p1), .val (.int p2), .val (.long (1048576 : Int64)), .second, .val (.long (524288 : Int64)), .second, .val (.int (p2 &&& (3 : Int32))), .unset, .unset, .unset, .unset] [(.int p1)])) _
            refine X0.ldcInt hx hown (mvT hZ (hw _ (List.mem_of_getElem? (i := 10) rfl))) (g := (mkF m 57 #[.val (.long q0), .second, .val (.int p1), .val (.int p2), .val (.long (1048576 : Int64)), .second, .val (.long (524288 : Int64)), .second, .val (.int (p2 &&& (3 : Int32))), .unset, .unset, .unset, .unset] [(.int p1)])) rfl (hb hby at_57) _ ?_
            show Steps p.tables e below (s₁.setTop (mkF m 59 #[.val (.long q0), .second, .val (.int p1), .val (.int p2), .val (.long (1048576 : Int64)), .second, .val (.long (524288 : Int64)), .second, .val (.int (p2 &&& (3 : Int32))), .unset, .unset, .unset, .unset] [(.int (1048575 : Int32)), (.int p1)])) _
            refine XS.iand X0.here hx rfl (hb hby at_59) rfl ?_
            show Steps p.tables e below (s₁.setTop (mkF m 60 #[.val (.long q0), .second, .val (.int p1), .val (.int p2), .val (.long (1048576 : Int64)), .second, .val (.long (524288 : Int64)), .second, .val (.int (p2 &&& (3 : Int32))), .unset, .unset, .unset, .unset] [(.int (p1 &&& (1048575 : Int32)))])) _
            refine XS.i2l X0.here hx rfl (hb hby at_60) rfl ?_
            show Steps p.tables e below (s₁.setTop (mkF m 61 #[.val (.long q0), .second, .val (.int p1), .val (.int p2), .val (.long (1048576 : Int64)), .second, .val (.long (524288 : Int64)), .second, .val (.int (p2 &&& (3 : Int32))), .unset, .unset, .unset, .unset] [(.long ((p1 &&& (1048575 : Int32)).toInt64))])) _
            refine XS.lload X0.here hx rfl (hb hby at_61) rfl ?_
            show Steps p.tables e below (s₁.setTop (mkF m 63 #[.val (.long q0), .second, .val (.int p1), .val (.int p2), .val (.long (1048576 : Int64)), .second, .val (.long (524288 : Int64)), .second, .val (.int (p2 &&& (3 : Int32))), .unset, .unset, .unset, .unset] [(.long (1048576 : Int64)), (.long ((p1 &&& (1048575 : Int32)).toInt64))])) _
            refine XS.lmul X0.here hx rfl (hb hby at_63) rfl ?_
            show Steps p.tables e below (s₁.setTop (mkF m 64 #[.val (.long q0), .second, .val (.int p1), .val (.int p2), .val (.long (1048576 : Int64)), .second, .val (.long (524288 : Int64)), .second, .val (.int (p2 &&& (3 : Int32))), .unset, .unset, .unset, .unset] [(.long (((p1 &&& (1048575 : Int32)).toInt64) * (1048576 : Int64)))])) _
            refine XS.lloadN X0.here hx rfl (hb hby at_64) rfl ?_
            show Steps p.tables e below (s₁.setTop (mkF m 65 #[.val (.long q0), .second, .val (.int p1), .val (.int p2), .val (.long (1048576 : Int64)), .second, .val (.long (524288 : Int64)), .second, .val (.int (p2 &&& (3 : Int32))), .unset, .unset, .unset, .unset] [(.long q0), (.long (((p1 &&& (1048575 : Int32)).toInt64) * (1048576 : Int64)))])) _
            refine X0.ldc2Long hx hown (mvT hZ (hw _ (List.mem_of_getElem? (i := 11) rfl))) (g := (mkF m 65 #[.val (.long q0), .second, .val (.int p1), .val (.int p2), .val (.long (1048576 : Int64)), .second, .val (.long (524288 : Int64)), .second, .val (.int (p2 &&& (3 : Int32))), .unset, .unset, .unset, .unset] [(.long q0), (.long (((p1 &&& (1048575 : Int32)).toInt64) * (1048576 : Int64)))])) rfl (hb hby at_65) _ ?_
            show Steps p.tables e below (s₁.setTop (mkF m 68 #[.val (.long q0), .second, .val (.int p1), .val (.int p2), .val (.long (1048576 : Int64)), .second, .val (.long (524288 : Int64)), .second, .val (.int (p2 &&& (3 : Int32))), .unset, .unset, .unset, .unset] [(.long (5 : Int64)), (.long q0), (.long (((p1 &&& (1048575 : Int32)).toInt64) * (1048576 : Int64)))])) _
            refine XS.lrem X0.here hx rfl (hb hby at_68) rfl (by decide) ?_
            show Steps p.tables e below (s₁.setTop (mkF m 69 #[.val (.long q0), .second, .val (.int p1), .val (.int p2), .val (.long (1048576 : Int64)), .second, .val (.long (524288 : Int64)), .second, .val (.int (p2 &&& (3 : Int32))), .unset, .unset, .unset, .unset] [(.long (own_lrem q0 (5 : Int64))), (.long (((p1 &&& (1048575 : Int32)).toInt64) * (1048576 : Int64)))])) _
            refine XS.ladd X0.here hx rfl (hb hby at_69) rfl ?_
            show Steps p.tables e below (s₁.setTop (mkF m 70 #[.val (.long q0), .second, .val (.int p1), .val (.int p2), .val (.long (1048576 : Int64)), .second, .val (.long (524288 : Int64)), .second, .val (.int (p2 &&& (3 : Int32))), .unset, .unset, .unset, .unset] [(.long ((((p1 &&& (1048575 : Int32)).toInt64) * (1048576 : Int64)) + (own_lrem q0 (5 : Int64))))])) _
            refine XS.lstore X0.here hx rfl (hb hby at_70) rfl (l' := #[.val (.long q0), .second, .val (.int p1), .val (.int p2), .val (.long (1048576 : Int64)), .second, .val (.long (524288 : Int64)), .second, .val (.int (p2 &&& (3 : Int32))), .val (.long ((((p1 &&& (1048575 : Int32)).toInt64) * (1048576 : Int64)) + (own_lrem q0 (5 : Int64)))), .second, .unset, .unset]) rfl ?_
            show Steps p.tables e below (s₁.setTop (mkF m 72 #[.val (.long q0), .second, .val (.int p1), .val (.int p2), .val (.long (1048576 : Int64)), .second, .val (.long (524288 : Int64)), .second, .val (.int (p2 &&& (3 : Int32))), .val (.long ((((p1 &&& (1048575 : Int32)).toInt64) * (1048576 : Int64)) + (own_lrem q0 (5 : Int64)))), .second, .unset, .unset] [])) _
            refine XS.goto X0.here hx rfl (pc0 := 72) (pc' := 82) rfl (hb hby at_72) (by decide) (by decide) ?_
            exact k)
        · rw [show (own_bytes q0 p1 p2) = (q0 ||| (-9223372036854775808 : Int64)) from by simp only [own_bytes, if_neg hc17_3, if_neg hc33_5, if_neg hc53_7]]
          exact fun t k => pre6 t (by
            show Steps p.tables e below (s₁.setTop (mkF m 53 #[.val (.long q0), .second, .val (.int p1), .val (.int p2), .val (.long (1048576 : Int64)), .second, .val (.long (524288 : Int64)), .second, .val (.int (p2 &&& (3 : Int32))), .unset, .unset, .unset, .unset] [(.int (2 : Int32)), (.int (p2 &&& (3 : Int32)))])) _
            refine XS.icmpYes X0.here hx rfl (pc0 := 53) (pc' := 75) rfl (hb hby at_53) rfl (feq hc53_7).2 (by decide) (by decide) ?_
            show Steps p.tables e below (s₁.setTop (mkF m 75 #[.val (.long q0), .second, .val (.int p1), .val (.int p2), .val (.long (1048576 : Int64)), .second, .val (.long (524288 : Int64)), .second, .val (.int (p2 &&& (3 : Int32))), .unset, .unset, .unset, .unset] [])) _
            refine XS.lloadN X0.here hx rfl (hb hby at_75) rfl ?_
            show Steps p.tables e below (s₁.setTop (mkF m 76 #[.val (.long q0), .second, .val (.int p1), .val (.int p2), .val (.long (1048576 : Int64)), .second, .val (.long (524288 : Int64)), .second, .val (.int (p2 &&& (3 : Int32))), .unset, .unset, .unset, .unset] [(.long q0)])) _
            refine X0.ldc2Long hx hown (mvT hZ (hw _ (List.mem_of_getElem? (i := 8) rfl))) (g := (mkF m 76 #[.val (.long q0), .second, .val (.int p1), .val (.int p2), .val (.long (1048576 : Int64)), .second, .val (.long (524288 : Int64)), .second, .val (.int (p2 &&& (3 : Int32))), .unset, .unset, .unset, .unset] [(.long q0)])) rfl (hb hby at_76) _ ?_
            show Steps p.tables e below (s₁.setTop (mkF m 79 #[.val (.long q0), .second, .val (.int p1), .val (.int p2), .val (.long (1048576 : Int64)), .second, .val (.long (524288 : Int64)), .second, .val (.int (p2 &&& (3 : Int32))), .unset, .unset, .unset, .unset] [(.long (-9223372036854775808 : Int64)), (.long q0)])) _
            refine XS.lor X0.here hx rfl (hb hby at_79) rfl ?_
            show Steps p.tables e below (s₁.setTop (mkF m 80 #[.val (.long q0), .second, .val (.int p1), .val (.int p2), .val (.long (1048576 : Int64)), .second, .val (.long (524288 : Int64)), .second, .val (.int (p2 &&& (3 : Int32))), .unset, .unset, .unset, .unset] [(.long (q0 ||| (-9223372036854775808 : Int64)))])) _
            refine XS.lstore X0.here hx rfl (hb hby at_80) rfl (l' := #[.val (.long q0), .second, .val (.int p1), .val (.int p2), .val (.long (1048576 : Int64)), .second, .val (.long (524288 : Int64)), .second, .val (.int (p2 &&& (3 : Int32))), .val (.long (q0 ||| (-9223372036854775808 : Int64))), .second, .unset, .unset]) rfl ?_
            exact k)
  obtain ⟨_, _, ⟨T8, L8, k8, n8⟩, -, X8, ⟨Lc8, hQ8, l8, y8, z8⟩, st8⟩ := Jvm.LawKit.callS X0 hx (y := (⟨"com/example/stochist/stochist/input/ItemLimit", "arrayBytes", "(J)J"⟩ : MethodName)) hown (mvT hZ (hw _ (List.mem_of_getElem? (i := 2) rfl))) (mvT hZ (hw _ (List.mem_of_getElem? (i := 3) rfl))) (mvT hZ (hw _ (List.mem_of_getElem? (i := 4) rfl))) (mvT hZ (hw _ (List.mem_of_getElem? (i := 5) rfl))) (by decide) (backOf (W := 0) (rm1 l Z aw hw [] (own_bytes q0 p1 p2) h0 n0 Z0) hZ (hw _ (List.mem_of_getElem? (i := 5) rfl)) (hw _ (List.mem_of_getElem? (i := 4) rfl)) (by decide) (by decide)) (g := (mkF m 84 #[.val (.long q0), .second, .val (.int p1), .val (.int p2), .val (.long (1048576 : Int64)), .second, .val (.long (524288 : Int64)), .second, .val (.int (p2 &&& (3 : Int32))), .val (.long (own_bytes q0 p1 p2)), .second, .unset, .unset] [(.long (own_bytes q0 p1 p2))])) rfl (by rw [hml]; rfl) (argsL := [(.long (own_bytes q0 p1 p2))]) (rest := []) (lenOf pd_rm0_0 rfl) rfl (by show 2 * 0 + _ ≤ _; exact Nat.le_of_eq rfl) (hb hby at_84) (fun _ _ => ⟨rfl, e0, (by decide : 0 + 0 ≤ _), (by decide : 0 + 0 ≤ _)⟩)
  dsimp only [Pt.U, Pt.locs, Pt.cells, Pt.slots] at X8 l8 y8 z8 st8 hQ8
  subst l8 y8 z8
  obtain ⟨rfl, N8q, e8q⟩ := hQ8
  have N8 := Fr.app N0 N8q
  have pre9 : ∀ t, Steps p.tables e below (T8.setTop (mkF m 94 #[.val (.long q0), .second, .val (.int p1), .val (.int p2), .val (.long (1048576 : Int64)), .second, .val (.long (524288 : Int64)), .second, .val (.int (p2 &&& (3 : Int32))), .val (.long (own_bytes q0 p1 p2)), .second, .val (.long (own_f1 (own_bytes q0 p1 p2))), .second] [(.int (lcmpW (own_bytes q0 p1 p2) (524288 : Int64)))])) t → Steps p.tables e below (s₁.setTop (entryFrame m #[(.long q0), (.int p1), (.int p2)] maxLocals)) t := fun t k => pre2 t (by
    show Steps p.tables e below (s₁.setTop (mkF m 82 #[.val (.long q0), .second, .val (.int p1), .val (.int p2), .val (.long (1048576 : Int64)), .second, .val (.long (524288 : Int64)), .second, .val (.int (p2 &&& (3 : Int32))), .val (.long (own_bytes q0 p1 p2)), .second, .unset, .unset] [])) _
    refine XS.lload X0.here hx rfl (hb hby at_82) rfl ?_
    show Steps p.tables e below (s₁.setTop (mkF m 84 #[.val (.long q0), .second, .val (.int p1), .val (.int p2), .val (.long (1048576 : Int64)), .second, .val (.long (524288 : Int64)), .second, .val (.int (p2 &&& (3 : Int32))), .val (.long (own_bytes q0 p1 p2)), .second, .unset, .unset] [(.long (own_bytes q0 p1 p2))])) _
    refine st8 _ ?_
    show Steps p.tables e below (T8.setTop (mkF m 87 #[.val (.long q0), .second, .val (.int p1), .val (.int p2), .val (.long (1048576 : Int64)), .second, .val (.long (524288 : Int64)), .second, .val (.int (p2 &&& (3 : Int32))), .val (.long (own_bytes q0 p1 p2)), .second, .unset, .unset] [(.long (own_f1 (own_bytes q0 p1 p2)))])) _
    refine XS.lstore X8.here hx rfl (hb hby at_87) rfl (l' := #[.val (.long q0), .second, .val (.int p1), .val (.int p2), .val (.long (1048576 : Int64)), .second, .val (.long (524288 : Int64)), .second, .val (.int (p2 &&& (3 : Int32))), .val (.long (own_bytes q0 p1 p2)), .second, .val (.long (own_f1 (own_bytes q0 p1 p2))), .second]) rfl ?_
    show Steps p.tables e below (T8.setTop (mkF m 89 #[.val (.long q0), .second, .val (.int p1), .val (.int p2), .val (.long (1048576 : Int64)), .second, .val (.long (524288 : Int64)), .second, .val (.int (p2 &&& (3 : Int32))), .val (.long (own_bytes q0 p1 p2)), .second, .val (.long (own_f1 (own_bytes q0 p1 p2))), .second] [])) _
    refine XS.lload X8.here hx rfl (hb hby at_89) rfl ?_
    show Steps p.tables e below (T8.setTop (mkF m 91 #[.val (.long q0), .second, .val (.int p1), .val (.int p2), .val (.long (1048576 : Int64)), .second, .val (.long (524288 : Int64)), .second, .val (.int (p2 &&& (3 : Int32))), .val (.long (own_bytes q0 p1 p2)), .second, .val (.long (own_f1 (own_bytes q0 p1 p2))), .second] [(.long (own_bytes q0 p1 p2))])) _
    refine XS.lload X8.here hx rfl (hb hby at_91) rfl ?_
    show Steps p.tables e below (T8.setTop (mkF m 93 #[.val (.long q0), .second, .val (.int p1), .val (.int p2), .val (.long (1048576 : Int64)), .second, .val (.long (524288 : Int64)), .second, .val (.int (p2 &&& (3 : Int32))), .val (.long (own_bytes q0 p1 p2)), .second, .val (.long (own_f1 (own_bytes q0 p1 p2))), .second] [(.long (524288 : Int64)), (.long (own_bytes q0 p1 p2))])) _
    refine XS.lcmp X8.here hx rfl (hb hby at_93) rfl ?_
    exact k)
  by_cases hc94_10 : (524288 : Int64) < (own_bytes q0 p1 p2)
  · have pre11 : ∀ t, Steps p.tables e below (T8.setTop (mkF m 116 #[.val (.long q0), .second, .val (.int p1), .val (.int p2), .val (.long (1048576 : Int64)), .second, .val (.long (524288 : Int64)), .second, .val (.int (p2 &&& (3 : Int32))), .val (.long (own_bytes q0 p1 p2)), .second, .val (.long (own_f1 (own_bytes q0 p1 p2))), .second] [(.int (lcmpW (own_f1 (own_bytes q0 p1 p2)) (own_bytes q0 p1 p2)))])) t → Steps p.tables e below (s₁.setTop (entryFrame m #[(.long q0), (.int p1), (.int p2)] maxLocals)) t := fun t k => pre9 t (by
      show Steps p.tables e below (T8.setTop (mkF m 94 #[.val (.long q0), .second, .val (.int p1), .val (.int p2), .val (.long (1048576 : Int64)), .second, .val (.long (524288 : Int64)), .second, .val (.int (p2 &&& (3 : Int32))), .val (.long (own_bytes q0 p1 p2)), .second, .val (.long (own_f1 (own_bytes q0 p1 p2))), .second] [(.int (lcmpW (own_bytes q0 p1 p2) (524288 : Int64)))])) _
      refine XS.ifYes X8.here hx rfl (pc0 := 94) (pc' := 111) rfl (hb hby at_94) rfl ((if0 _ _).trans (tlt ((lw_gt _ _).mpr hc94_10)).2.2.1) (by decide) (by decide) ?_
      show Steps p.tables e below (T8.setTop (mkF m 111 #[.val (.long q0), .second, .val (.int p1), .val (.int p2), .val (.long (1048576 : Int64)), .second, .val (.long (524288 : Int64)), .second, .val (.int (p2 &&& (3 : Int32))), .val (.long (own_bytes q0 p1 p2)), .second, .val (.long (own_f1 (own_bytes q0 p1 p2))), .second] [])) _
      refine XS.lload X8.here hx rfl (hb hby at_111) rfl ?_
      show Steps p.tables e below (T8.setTop (mkF m 113 #[.val (.long q0), .second, .val (.int p1), .val (.int p2), .val (.long (1048576 : Int64)), .second, .val (.long (524288 : Int64)), .second, .val (.int (p2 &&& (3 : Int32))), .val (.long (own_bytes q0 p1 p2)), .second, .val (.long (own_f1 (own_bytes q0 p1 p2))), .second] [(.long (own_f1 (own_bytes q0 p1 p2)))])) _
      refine XS.lload X8.here hx rfl (hb hby at_113) rfl ?_
      show Steps p.tables e below (T8.setTop (mkF m 115 #[.val (.long q0), .second, .val (.int p1), .val (.int p2), .val (.long (1048576 : Int64)), .second, .val (.long (524288 : Int64)), .second, .val (.int (p2 &&& (3 : Int32))), .val (.long (own_bytes q0 p1 p2)), .second, .val (.long (own_f1 (own_bytes q0 p1 p2))), .second] [(.long (own_bytes q0 p1 p2)), (.long (own_f1 (own_bytes q0 p1 p2)))])) _
      refine XS.lcmp X8.here hx rfl (hb hby at_115) rfl ?_
      exact k)
    by_cases hc116_12 : (own_f1 (own_bytes q0 p1 p2)) < (own_bytes q0 p1 p2)
    · obtain ⟨fs, hr, hrun, hended, hW, hsame⟩ := X8.leave (v := some (.int (0 : Int32))) (fun h => by rw [Bd.returns] at h; cases h)
      refine ⟨_, _, pre11 _ ?_, hrun, hended, _, _, rfl, ?_, ⟨_, rfl⟩, hW, hsame.mono (by decide) (by decide)⟩
      · show Steps p.tables e below (T8.setTop (mkF m 116 #[.val (.long q0), .second, .val (.int p1), .val (.int p2), .val (.long (1048576 : Int64)), .second, .val (.long (524288 : Int64)), .second, .val (.int (p2 &&& (3 : Int32))), .val (.long (own_bytes q0 p1 p2)), .second, .val (.long (own_f1 (own_bytes q0 p1 p2))), .second] [(.int (lcmpW (own_f1 (own_bytes q0 p1 p2)) (own_bytes q0 p1 p2)))])) _
        refine XS.ifYes X8.here hx rfl (pc0 := 116) (pc' := 144) rfl (hb hby at_116) rfl ((if0 _ _).trans (tlt ((lw_lt _ _).mpr hc116_12)).1) (by decide) (by decide) ?_
        show Steps p.tables e below (T8.setTop (mkF m 144 #[.val (.long q0), .second, .val (.int p1), .val (.int p2), .val (.long (1048576 : Int64)), .second, .val (.long (524288 : Int64)), .second, .val (.int (p2 &&& (3 : Int32))), .val (.long (own_bytes q0 p1 p2)), .second, .val (.long (own_f1 (own_bytes q0 p1 p2))), .second] [])) _
        refine XS.iconst X8.here hx rfl (hb hby at_144) ?_
        show Steps p.tables e below (T8.setTop (mkF m 145 #[.val (.long q0), .second, .val (.int p1), .val (.int p2), .val (.long (1048576 : Int64)), .second, .val (.long (524288 : Int64)), .second, .val (.int (p2 &&& (3 : Int32))), .val (.long (own_bytes q0 p1 p2)), .second, .val (.long (own_f1 (own_bytes q0 p1 p2))), .second] [(.int (0 : Int32))])) _
        exact retN X8 hx (t := .boolean) Bd.returns (by simp) (hb hby at_145) hr
      · show rm0Q Z q0 p1 p2 h0 n0 _ T8.heap _
        rw [e8q]
        have hres : own_f0 q0 p1 p2 = (0 : Int32) := by
          simp only [own_f0, if_pos hc94_10, if_pos hc116_12]
        exact ⟨by rw [hres], N8, rfl⟩
    · have pre13 : ∀ t, Steps p.tables e below (T8.setTop (mkF m 127 #[.val (.long q0), .second, .val (.int p1), .val (.int p2), .val (.long (1048576 : Int64)), .second, .val (.long (524288 : Int64)), .second, .val (.int (p2 &&& (3 : Int32))), .val (.long (own_bytes q0 p1 p2)), .second, .val (.long (own_f1 (own_bytes q0 p1 p2))), .second] [(.int (lcmpW ((own_f1 (own_bytes q0 p1 p2)) - (own_bytes q0 p1 p2)) (1048576 : Int64)))])) t → Steps p.tables e below (s₁.setTop (entryFrame m #[(.long q0), (.int p1), (.int p2)] maxLocals)) t := fun t k => pre11 t (by
        show Steps p.tables e below (T8.setTop (mkF m 116 #[.val (.long q0), .second, .val (.int p1), .val (.int p2), .val (.long (1048576 : Int64)), .second, .val (.long (524288 : Int64)), .second, .val (.int (p2 &&& (3 : Int32))), .val (.long (own_bytes q0 p1 p2)), .second, .val (.long (own_f1 (own_bytes q0 p1 p2))), .second] [(.int (lcmpW (own_f1 (own_bytes q0 p1 p2)) (own_bytes q0 p1 p2)))])) _
        refine XS.ifNo X8.here hx rfl (hb hby at_116) rfl ((if0 _ _).trans (flt (fun q => hc116_12 ((lw_lt _ _).mp q))).1) ?_
        show Steps p.tables e below (T8.setTop (mkF m 119 #[.val (.long q0), .second, .val (.int p1), .val (.int p2), .val (.long (1048576 : Int64)), .second, .val (.long (524288 : Int64)), .second, .val (.int (p2 &&& (3 : Int32))), .val (.long (own_bytes q0 p1 p2)), .second, .val (.long (own_f1 (own_bytes q0 p1 p2))), .second] [])) _
        refine XS.lload X8.here hx rfl (hb hby at_119) rfl ?_
        show Steps p.tables e below (T8.setTop (mkF m 121 #[.val (.long q0), .second, .val (.int p1), .val (.int p2), .val (.long (1048576 : Int64)), .second, .val (.long (524288 : Int64)), .second, .val (.int (p2 &&& (3 : Int32))), .val (.long (own_bytes q0 p1 p2)), .second, .val (.long (own_f1 (own_bytes q0 p1 p2))), .second] [(.long (own_f1 (own_bytes q0 p1 p2)))])) _
        refine XS.lload X8.here hx rfl (hb hby at_121) rfl ?_
        show Steps p.tables e below (T8.setTop (mkF m 123 #[.val (.long q0), .second, .val (.int p1), .val (.int p2), .val (.long (1048576 : Int64)), .second, .val (.long (524288 : Int64)), .second, .val (.int (p2 &&& (3 : Int32))), .val (.long (own_bytes q0 p1 p2)), .second, .val (.long (own_f1 (own_bytes q0 p1 p2))), .second] [(.long (own_bytes q0 p1 p2)), (.long (own_f1 (own_bytes q0 p1 p2)))])) _
        refine XS.lsub X8.here hx rfl (hb hby at_123) rfl ?_
        show Steps p.tables e below (T8.setTop (mkF m 124 #[.val (.long q0), .second, .val (.int p1), .val (.int p2), .val (.long (1048576 : Int64)), .second, .val (.long (524288 : Int64)), .second, .val (.int (p2 &&& (3 : Int32))), .val (.long (own_bytes q0 p1 p2)), .second, .val (.long (own_f1 (own_bytes q0 p1 p2))), .second] [(.long ((own_f1 (own_bytes q0 p1 p2)) - (own_bytes q0 p1 p2)))])) _
        refine XS.lload X8.here hx rfl (hb hby at_124) rfl ?_
        show Steps p.tables e below (T8.setTop (mkF m 126 #[.val (.long q0), .second, .val (.int p1), .val (.int p2), .val (.long (1048576 : Int64)), .second, .val (.long (524288 : Int64)), .second, .val (.int (p2 &&& (3 : Int32))), .val (.long (own_bytes q0 p1 p2)), .second, .val (.long (own_f1 (own_bytes q0 p1 p2))), .second] [(.long (1048576 : Int64)), (.long ((own_f1 (own_bytes q0 p1 p2)) - (own_bytes q0 p1 p2)))])) _
        refine XS.lcmp X8.here hx rfl (hb hby at_126) rfl ?_
        exact k)
      by_cases hc127_14 : ((own_f1 (own_bytes q0 p1 p2)) - (own_bytes q0 p1 p2)) < (1048576 : Int64)
      · have pre15 : ∀ t, Steps p.tables e below (T8.setTop (mkF m 137 #[.val (.long q0), .second, .val (.int p1), .val (.int p2), .val (.long (1048576 : Int64)), .second, .val (.long (524288 : Int64)), .second, .val (.int (p2 &&& (3 : Int32))), .val (.long (own_bytes q0 p1 p2)), .second, .val (.long (own_f1 (own_bytes q0 p1 p2))), .second] [(.int (lcmpW (own_lrem (own_f1 (own_bytes q0 p1 p2)) (1048576 : Int64)) (0 : Int64)))])) t → Steps p.tables e below (s₁.setTop (entryFrame m #[(.long q0), (.int p1), (.int p2)] maxLocals)) t := fun t k => pre13 t (by
          show Steps p.tables e below (T8.setTop (mkF m 127 #[.val (.long q0), .second, .val (.int p1), .val (.int p2), .val (.long (1048576 : Int64)), .second, .val (.long (524288 : Int64)), .second, .val (.int (p2 &&& (3 : Int32))), .val (.long (own_bytes q0 p1 p2)), .second, .val (.long (own_f1 (own_bytes q0 p1 p2))), .second] [(.int (lcmpW ((own_f1 (own_bytes q0 p1 p2)) - (own_bytes q0 p1 p2)) (1048576 : Int64)))])) _
          refine XS.ifNo X8.here hx rfl (hb hby at_127) rfl ((if0 _ _).trans (tlt ((lw_lt _ _).mpr hc127_14)).2.1) ?_
          show Steps p.tables e below (T8.setTop (mkF m 130 #[.val (.long q0), .second, .val (.int p1), .val (.int p2), .val (.long (1048576 : Int64)), .second, .val (.long (524288 : Int64)), .second, .val (.int (p2 &&& (3 : Int32))), .val (.long (own_bytes q0 p1 p2)), .second, .val (.long (own_f1 (own_bytes q0 p1 p2))), .second] [])) _
          refine XS.lload X8.here hx rfl (hb hby at_130) rfl ?_
          show Steps p.tables e below (T8.setTop (mkF m 132 #[.val (.long q0), .second, .val (.int p1), .val (.int p2), .val (.long (1048576 : Int64)), .second, .val (.long (524288 : Int64)), .second, .val (.int (p2 &&& (3 : Int32))), .val (.long (own_bytes q0 p1 p2)), .second, .val (.long (own_f1 (own_bytes q0 p1 p2))), .second] [(.long (own_f1 (own_bytes q0 p1 p2)))])) _
          refine XS.lload X8.here hx rfl (hb hby at_132) rfl ?_
          show Steps p.tables e below (T8.setTop (mkF m 134 #[.val (.long q0), .second, .val (.int p1), .val (.int p2), .val (.long (1048576 : Int64)), .second, .val (.long (524288 : Int64)), .second, .val (.int (p2 &&& (3 : Int32))), .val (.long (own_bytes q0 p1 p2)), .second, .val (.long (own_f1 (own_bytes q0 p1 p2))), .second] [(.long (1048576 : Int64)), (.long (own_f1 (own_bytes q0 p1 p2)))])) _
          refine XS.lrem X8.here hx rfl (hb hby at_134) rfl (by decide) ?_
          show Steps p.tables e below (T8.setTop (mkF m 135 #[.val (.long q0), .second, .val (.int p1), .val (.int p2), .val (.long (1048576 : Int64)), .second, .val (.long (524288 : Int64)), .second, .val (.int (p2 &&& (3 : Int32))), .val (.long (own_bytes q0 p1 p2)), .second, .val (.long (own_f1 (own_bytes q0 p1 p2))), .second] [(.long (own_lrem (own_f1 (own_bytes q0 p1 p2)) (1048576 : Int64)))])) _
          refine XS.lconst X8.here hx rfl (hb hby at_135) ?_
          show Steps p.tables e below (T8.setTop (mkF m 136 #[.val (.long q0), .second, .val (.int p1), .val (.int p2), .val (.long (1048576 : Int64)), .second, .val (.long (524288 : Int64)), .second, .val (.int (p2 &&& (3 : Int32))), .val (.long (own_bytes q0 p1 p2)), .second, .val (.long (own_f1 (own_bytes q0 p1 p2))), .second] [(.long (0 : Int64)), (.long (own_lrem (own_f1 (own_bytes q0 p1 p2)) (1048576 : Int64)))])) _
          refine XS.lcmp X8.here hx rfl (hb hby at_136) rfl ?_
          exact k)
        by_cases hc137_16 : (own_lrem (own_f1 (own_bytes q0 p1 p2)) (1048576 : Int64)) = (0 : Int64)
        · obtain ⟨fs, hr, hrun, hended, hW, hsame⟩ := X8.leave (v := some (.int (1 : Int32))) (fun h => by rw [Bd.returns] at h; cases h)
          refine ⟨_, _, pre15 _ ?_, hrun, hended, _, _, rfl, ?_, ⟨_, rfl⟩, hW, hsame.mono (by decide) (by decide)⟩
          · show Steps p.tables e below (T8.setTop (mkF m 137 #[.val (.long q0), .second, .val (.int p1), .val (.int p2), .val (.long (1048576 : Int64)), .second, .val (.long (524288 : Int64)), .second, .val (.int (p2 &&& (3 : Int32))), .val (.long (own_bytes q0 p1 p2)), .second, .val (.long (own_f1 (own_bytes q0 p1 p2))), .second] [(.int (lcmpW (own_lrem (own_f1 (own_bytes q0 p1 p2)) (1048576 : Int64)) (0 : Int64)))])) _
            refine XS.ifNo X8.here hx rfl (hb hby at_137) rfl ((if0 _ _).trans (teq ((lw_eq _ _).mpr hc137_16)).2) ?_
            show Steps p.tables e below (T8.setTop (mkF m 140 #[.val (.long q0), .second, .val (.int p1), .val (.int p2), .val (.long (1048576 : Int64)), .second, .val (.long (524288 : Int64)), .second, .val (.int (p2 &&& (3 : Int32))), .val (.long (own_bytes q0 p1 p2)), .second, .val (.long (own_f1 (own_bytes q0 p1 p2))), .second] [])) _
            refine XS.iconst X8.here hx rfl (hb hby at_140) ?_
            show Steps p.tables e below (T8.setTop (mkF m 141 #[.val (.long q0), .second, .val (.int p1), .val (.int p2), .val (.long (1048576 : Int64)), .second, .val (.long (524288 : Int64)), .second, .val (.int (p2 &&& (3 : Int32))), .val (.long (own_bytes q0 p1 p2)), .second, .val (.long (own_f1 (own_bytes q0 p1 p2))), .second] [(.int (1 : Int32))])) _
            refine XS.goto X8.here hx rfl (pc0 := 141) (pc' := 145) rfl (hb hby at_141) (by decide) (by decide) ?_
            show Steps p.tables e below (T8.setTop (mkF m 145 #[.val (.long q0), .second, .val (.int p1), .val (.int p2), .val (.long (1048576 : Int64)), .second, .val (.long (524288 : Int64)), .second, .val (.int (p2 &&& (3 : Int32))), .val (.long (own_bytes q0 p1 p2)), .second, .val (.long (own_f1 (own_bytes q0 p1 p2))), .second] [(.int (1 : Int32))])) _
            exact retN X8 hx (t := .boolean) Bd.returns (by simp) (hb hby at_145) hr
          · show rm0Q Z q0 p1 p2 h0 n0 _ T8.heap _
            rw [e8q]
            have hres : own_f0 q0 p1 p2 = (1 : Int32) := by
              simp only [own_f0, if_pos hc94_10, if_neg hc116_12, if_pos hc127_14, if_pos hc137_16]
            exact ⟨by rw [hres], N8, rfl⟩
        · obtain ⟨fs, hr, hrun, hended, hW, hsame⟩ := X8.leave (v := some (.int (0 : Int32))) (fun h => by rw [Bd.returns] at h; cases h)
          refine ⟨_, _, pre15 _ ?_, hrun, hended, _, _, rfl, ?_, ⟨_, rfl⟩, hW, hsame.mono (by decide) (by decide)⟩
          · show Steps p.tables e below (T8.setTop (mkF m 137 #[.val (.long q0), .second, .val (.int p1), .val (.int p2), .val (.long (1048576 : Int64)), .second, .val (.long (524288 : Int64)), .second, .val (.int (p2 &&& (3 : Int32))), .val (.long (own_bytes q0 p1 p2)), .second, .val (.long (own_f1 (own_bytes q0 p1 p2))), .second] [(.int (lcmpW (own_lrem (own_f1 (own_bytes q0 p1 p2)) (1048576 : Int64)) (0 : Int64)))])) _
            refine XS.ifYes X8.here hx rfl (pc0 := 137) (pc' := 144) rfl (hb hby at_137) rfl ((if0 _ _).trans (feq (fun q => hc137_16 ((lw_eq _ _).mp q))).2) (by decide) (by decide) ?_
            show Steps p.tables e below (T8.setTop (mkF m 144 #[.val (.long q0), .second, .val (.int p1), .val (.int p2), .val (.long (1048576 : Int64)), .second, .val (.long (524288 : Int64)), .second, .val (.int (p2 &&& (3 : Int32))), .val (.long (own_bytes q0 p1 p2)), .second, .val (.long (own_f1 (own_bytes q0 p1 p2))), .second] [])) _
            refine XS.iconst X8.here hx rfl (hb hby at_144) ?_
            show Steps p.tables e below (T8.setTop (mkF m 145 #[.val (.long q0), .second, .val (.int p1), .val (.int p2), .val (.long (1048576 : Int64)), .second, .val (.long (524288 : Int64)), .second, .val (.int (p2 &&& (3 : Int32))), .val (.long (own_bytes q0 p1 p2)), .second, .val (.long (own_f1 (own_bytes q0 p1 p2))), .second] [(.int (0 : Int32))])) _
            exact retN X8 hx (t := .boolean) Bd.returns (by simp) (hb hby at_145) hr
          · show rm0Q Z q0 p1 p2 h0 n0 _ T8.heap _
            rw [e8q]
            have hres : own_f0 q0 p1 p2 = (0 : Int32) := by
              simp only [own_f0, if_pos hc94_10, if_neg hc116_12, if_pos hc127_14, if_neg hc137_16]
            exact ⟨by rw [hres], N8, rfl⟩
      · obtain ⟨fs, hr, hrun, hended, hW, hsame⟩ := X8.leave (v := some (.int (0 : Int32))) (fun h => by rw [Bd.returns] at h; cases h)
        refine ⟨_, _, pre13 _ ?_, hrun, hended, _, _, rfl, ?_, ⟨_, rfl⟩, hW, hsame.mono (by decide) (by decide)⟩
        · show Steps p.tables e below (T8.setTop (mkF m 127 #[.val (.long q0), .second, .val (.int p1), .val (.int p2), .val (.long (1048576 : Int64)), .second, .val (.long (524288 : Int64)), .second, .val (.int (p2 &&& (3 : Int32))), .val (.long (own_bytes q0 p1 p2)), .second, .val (.long (own_f1 (own_bytes q0 p1 p2))), .second] [(.int (lcmpW ((own_f1 (own_bytes q0 p1 p2)) - (own_bytes q0 p1 p2)) (1048576 : Int64)))])) _
          refine XS.ifYes X8.here hx rfl (pc0 := 127) (pc' := 144) rfl (hb hby at_127) rfl ((if0 _ _).trans (flt (fun q => hc127_14 ((lw_lt _ _).mp q))).2.1) (by decide) (by decide) ?_
          show Steps p.tables e below (T8.setTop (mkF m 144 #[.val (.long q0), .second, .val (.int p1), .val (.int p2), .val (.long (1048576 : Int64)), .second, .val (.long (524288 : Int64)), .second, .val (.int (p2 &&& (3 : Int32))), .val (.long (own_bytes q0 p1 p2)), .second, .val (.long (own_f1 (own_bytes q0 p1 p2))), .second] [])) _
          refine XS.iconst X8.here hx rfl (hb hby at_144) ?_
          show Steps p.tables e below (T8.setTop (mkF m 145 #[.val (.long q0), .second, .val (.int p1), .val (.int p2), .val (.long (1048576 : Int64)), .second, .val (.long (524288 : Int64)), .second, .val (.int (p2 &&& (3 : Int32))), .val (.long (own_bytes q0 p1 p2)), .second, .val (.long (own_f1 (own_bytes q0 p1 p2))), .second] [(.int (0 : Int32))])) _
          exact retN X8 hx (t := .boolean) Bd.returns (by simp) (hb hby at_145) hr
        · show rm0Q Z q0 p1 p2 h0 n0 _ T8.heap _
          rw [e8q]
          have hres : own_f0 q0 p1 p2 = (0 : Int32) := by
            simp only [own_f0, if_pos hc94_10, if_neg hc116_12, if_neg hc127_14]
          exact ⟨by rw [hres], N8, rfl⟩
  · have pre17 : ∀ t, Steps p.tables e below (T8.setTop (mkF m 102 #[.val (.long q0), .second, .val (.int p1), .val (.int p2), .val (.long (1048576 : Int64)), .second, .val (.long (524288 : Int64)), .second, .val (.int (p2 &&& (3 : Int32))), .val (.long (own_bytes q0 p1 p2)), .second, .val (.long (own_f1 (own_bytes q0 p1 p2))), .second] [(.int (lcmpW (own_f1 (own_bytes q0 p1 p2)) (own_bytes q0 p1 p2)))])) t → Steps p.tables e below (s₁.setTop (entryFrame m #[(.long q0), (.int p1), (.int p2)] maxLocals)) t := fun t k => pre9 t (by
      show Steps p.tables e below (T8.setTop (mkF m 94 #[.val (.long q0), .second, .val (.int p1), .val (.int p2), .val (.long (1048576 : Int64)), .second, .val (.long (524288 : Int64)), .second, .val (.int (p2 &&& (3 : Int32))), .val (.long (own_bytes q0 p1 p2)), .second, .val (.long (own_f1 (own_bytes q0 p1 p2))), .second] [(.int (lcmpW (own_bytes q0 p1 p2) (524288 : Int64)))])) _
      refine XS.ifNo X8.here hx rfl (hb hby at_94) rfl ((if0 _ _).trans (flt (fun q => hc94_10 ((lw_gt _ _).mp q))).2.2.1) ?_
      show Steps p.tables e below (T8.setTop (mkF m 97 #[.val (.long q0), .second, .val (.int p1), .val (.int p2), .val (.long (1048576 : Int64)), .second, .val (.long (524288 : Int64)), .second, .val (.int (p2 &&& (3 : Int32))), .val (.long (own_bytes q0 p1 p2)), .second, .val (.long (own_f1 (own_bytes q0 p1 p2))), .second] [])) _
      refine XS.lload X8.here hx rfl (hb hby at_97) rfl ?_
      show Steps p.tables e below (T8.setTop (mkF m 99 #[.val (.long q0), .second, .val (.int p1), .val (.int p2), .val (.long (1048576 : Int64)), .second, .val (.long (524288 : Int64)), .second, .val (.int (p2 &&& (3 : Int32))), .val (.long (own_bytes q0 p1 p2)), .second, .val (.long (own_f1 (own_bytes q0 p1 p2))), .second] [(.long (own_f1 (own_bytes q0 p1 p2)))])) _
      refine XS.lload X8.here hx rfl (hb hby at_99) rfl ?_
      show Steps p.tables e below (T8.setTop (mkF m 101 #[.val (.long q0), .second, .val (.int p1), .val (.int p2), .val (.long (1048576 : Int64)), .second, .val (.long (524288 : Int64)), .second, .val (.int (p2 &&& (3 : Int32))), .val (.long (own_bytes q0 p1 p2)), .second, .val (.long (own_f1 (own_bytes q0 p1 p2))), .second] [(.long (own_bytes q0 p1 p2)), (.long (own_f1 (own_bytes q0 p1 p2)))])) _
      refine XS.lcmp X8.here hx rfl (hb hby at_101) rfl ?_
      exact k)
    by_cases hc102_18 : (own_f1 (own_bytes q0 p1 p2)) = (own_bytes q0 p1 p2)
    · obtain ⟨fs, hr, hrun, hended, hW, hsame⟩ := X8.leave (v := some (.int (1 : Int32))) (fun h => by rw [Bd.returns] at h; cases h)
      refine ⟨_, _, pre17 _ ?_, hrun, hended, _, _, rfl, ?_, ⟨_, rfl⟩, hW, hsame.mono (by decide) (by decide)⟩
      · show Steps p.tables e below (T8.setTop (mkF m 102 #[.val (.long q0), .second, .val (.int p1), .val (.int p2), .val (.long (1048576 : Int64)), .second, .val (.long (524288 : Int64)), .second, .val (.int (p2 &&& (3 : Int32))), .val (.long (own_bytes q0 p1 p2)), .second, .val (.long (own_f1 (own_bytes q0 p1 p2))), .second] [(.int (lcmpW (own_f1 (own_bytes q0 p1 p2)) (own_bytes q0 p1 p2)))])) _
        refine XS.ifNo X8.here hx rfl (hb hby at_102) rfl ((if0 _ _).trans (teq ((lw_eq _ _).mpr hc102_18)).2) ?_
        show Steps p.tables e below (T8.setTop (mkF m 105 #[.val (.long q0), .second, .val (.int p1), .val (.int p2), .val (.long (1048576 : Int64)), .second, .val (.long (524288 : Int64)), .second, .val (.int (p2 &&& (3 : Int32))), .val (.long (own_bytes q0 p1 p2)), .second, .val (.long (own_f1 (own_bytes q0 p1 p2))), .second] [])) _
        refine XS.iconst X8.here hx rfl (hb hby at_105) ?_
        show Steps p.tables e below (T8.setTop (mkF m 106 #[.val (.long q0), .second, .val (.int p1), .val (.int p2), .val (.long (1048576 : Int64)), .second, .val (.long (524288 : Int64)), .second, .val (.int (p2 &&& (3 : Int32))), .val (.long (own_bytes q0 p1 p2)), .second, .val (.long (own_f1 (own_bytes q0 p1 p2))), .second] [(.int (1 : Int32))])) _
        refine XS.goto X8.here hx rfl (pc0 := 106) (pc' := 110) rfl (hb hby at_106) (by decide) (by decide) ?_
        show Steps p.tables e below (T8.setTop (mkF m 110 #[.val (.long q0), .second, .val (.int p1), .val (.int p2), .val (.long (1048576 : Int64)), .second, .val (.long (524288 : Int64)), .second, .val (.int (p2 &&& (3 : Int32))), .val (.long (own_bytes q0 p1 p2)), .second, .val (.long (own_f1 (own_bytes q0 p1 p2))), .second] [(.int (1 : Int32))])) _
        exact retN X8 hx (t := .boolean) Bd.returns (by simp) (hb hby at_110) hr
      · show rm0Q Z q0 p1 p2 h0 n0 _ T8.heap _
        rw [e8q]
        have hres : own_f0 q0 p1 p2 = (1 : Int32) := by
          simp only [own_f0, if_neg hc94_10, if_pos hc102_18]
        exact ⟨by rw [hres], N8, rfl⟩
    · obtain ⟨fs, hr, hrun, hended, hW, hsame⟩ := X8.leave (v := some (.int (0 : Int32))) (fun h => by rw [Bd.returns] at h; cases h)
      refine ⟨_, _, pre17 _ ?_, hrun, hended, _, _, rfl, ?_, ⟨_, rfl⟩, hW, hsame.mono (by decide) (by decide)⟩
      · show Steps p.tables e below (T8.setTop (mkF m 102 #[.val (.long q0), .second, .val (.int p1), .val (.int p2), .val (.long (1048576 : Int64)), .second, .val (.long (524288 : Int64)), .second, .val (.int (p2 &&& (3 : Int32))), .val (.long (own_bytes q0 p1 p2)), .second, .val (.long (own_f1 (own_bytes q0 p1 p2))), .second] [(.int (lcmpW (own_f1 (own_bytes q0 p1 p2)) (own_bytes q0 p1 p2)))])) _
        refine XS.ifYes X8.here hx rfl (pc0 := 102) (pc' := 109) rfl (hb hby at_102) rfl ((if0 _ _).trans (feq (fun q => hc102_18 ((lw_eq _ _).mp q))).2) (by decide) (by decide) ?_
        show Steps p.tables e below (T8.setTop (mkF m 109 #[.val (.long q0), .second, .val (.int p1), .val (.int p2), .val (.long (1048576 : Int64)), .second, .val (.long (524288 : Int64)), .second, .val (.int (p2 &&& (3 : Int32))), .val (.long (own_bytes q0 p1 p2)), .second, .val (.long (own_f1 (own_bytes q0 p1 p2))), .second] [])) _
        refine XS.iconst X8.here hx rfl (hb hby at_109) ?_
        show Steps p.tables e below (T8.setTop (mkF m 110 #[.val (.long q0), .second, .val (.int p1), .val (.int p2), .val (.long (1048576 : Int64)), .second, .val (.long (524288 : Int64)), .second, .val (.int (p2 &&& (3 : Int32))), .val (.long (own_bytes q0 p1 p2)), .second, .val (.long (own_f1 (own_bytes q0 p1 p2))), .second] [(.int (0 : Int32))])) _
        exact retN X8 hx (t := .boolean) Bd.returns (by simp) (hb hby at_110) hr
      · show rm0Q Z q0 p1 p2 h0 n0 _ T8.heap _
        rw [e8q]
        have hres : own_f0 q0 p1 p2 = (0 : Int32) := by
          simp only [own_f0, if_neg hc94_10, if_neg hc102_18]
        exact ⟨by rw [hres], N8, rfl⟩
theorem own_irem_mod (x y : Int32) : own_irem x y = x % y := by
  apply Int32.toInt_inj.mp
  have h1 := Int32.le_toInt (x % y)
  have h2 := Int32.toInt_lt (x % y)
  rw [own_irem, Int32.toInt_sub, Int32.toInt_mul, Int32.toInt_div, Int.bmod_mul_bmod, Int.sub_bmod_bmod, Int.mul_comm (x.toInt.tdiv y.toInt), ← Int.tmod_def, ← Int32.toInt_mod]
  exact Int.bmod_eq_of_le_mul_two (by omega) (by omega)
theorem own_or_neg (q : Int64) : (q ||| (-9223372036854775808 : Int64)).toInt < 0 := by
  have h : (q ||| (-9223372036854775808 : Int64)).toBitVec.msb = true := by
    show (q.toBitVec ||| (-9223372036854775808 : Int64).toBitVec).msb = true
    rw [BitVec.msb_or]
    have : (-9223372036854775808 : Int64).toBitVec.msb = true := by decide
    rw [this, Bool.or_true]
  exact BitVec.toInt_neg_of_msb_true h
theorem own_bytes_lt (q : Int64) (a b : Int32) : (own_bytes q a b).toInt < 4611686018427387904 := by
  unfold own_bytes
  split
  · have h := c_maskL q 4611686018427387903 62 (by decide) (by decide)
    rw [h]; omega
  · split
    · have h1 := c_ladd (524288 : Int64) (own_irem a 4096).toInt64
      have h2 := c_irem a 4096 4096 (by decide)
      rw [c_i2l, own_irem_mod, show (524288 : Int64).toInt = 524288 by decide] at h1
      rw [own_irem_mod]
      have := rng64 ((524288 : Int64) + (a % 4096).toInt64)
      have := rng32 a
      omega
    · split
      · have h1 := c_ladd ((a &&& (1048575 : Int32)).toInt64 * (1048576 : Int64)) (own_lrem q 5)
        have h2 := c_lmul (a &&& (1048575 : Int32)).toInt64 (1048576 : Int64)
        have h3 := c_mask a 1048575 20 (by decide) (by decide)
        have h4 := c_lrem q 5 5 (by decide)
        have h3' : 0 ≤ (a &&& (1048575 : Int32)).toInt ∧ (a &&& (1048575 : Int32)).toInt < 1048576 := by rw [h3]; omega
        rw [c_i2l, show (1048576 : Int64).toInt = 1048576 by decide] at h2
        have h5 := rng64 ((a &&& (1048575 : Int32)).toInt64 * (1048576 : Int64))
        have h6 := rng64 (((a &&& (1048575 : Int32)).toInt64 * (1048576 : Int64)) + (own_lrem q 5))
        have h7 := rng64 q
        change (0 ≤ q.toInt → (own_lrem q 5).toInt = _) ∧ (q.toInt < 0 → (own_lrem q 5).toInt = _) at h4
        have h8 : ((a &&& (1048575 : Int32)).toInt64 * (1048576 : Int64)).toInt = (a &&& (1048575 : Int32)).toInt * 1048576 := by omega
        have h9 : (own_lrem q 5).toInt < 5 ∧ -5 < (own_lrem q 5).toInt := by omega
        clear h2 h3 h4 h5 h7
        generalize (own_lrem q 5).toInt = z at *
        generalize (a &&& (1048575 : Int32)).toInt = y at *
        rw [h8] at h1
        omega
      · have := own_or_neg q
        omega
theorem own_core (B : Int64) (hB : B.toInt < 4611686018427387904) : (if (524288 : Int64) < B then (if (own_f1 B) < B then (0 : Int32)
    else (if ((own_f1 B) - B) < (1048576 : Int64) then (if (own_lrem (own_f1 B) (1048576 : Int64)) = (0 : Int64) then (1 : Int32)
      else (0 : Int32))
    else (0 : Int32)))
  else (if (own_f1 B) = B then (1 : Int32)
  else (0 : Int32))) = 1 := by
  have l1 : (524288 : Int64).toInt = 524288 := by decide
  have l2 : (1048576 : Int64).toInt = 1048576 := by decide
  have l3 : (1 : Int64).toInt = 1 := by decide
  by_cases h : (524288 : Int64) < B
  · rw [if_pos h]
    rw [Int64.lt_iff_toInt_lt, l1] at h
    have e1 := c_ladd B 1048576
    have e2 := c_lsub (B + 1048576) 1
    have e3 := c_ldiv (B + 1048576 - 1) 1048576 1048576 l2 (by decide)
    have e4 := c_lmul ((B + 1048576 - 1) / 1048576) 1048576
    have r1 := rng64 (B + 1048576)
    have r2 := rng64 (B + 1048576 - 1)
    have r3 := rng64 (((B + 1048576 - 1) / 1048576) * 1048576)
    rw [l2] at e1 e4
    rw [l3] at e2
    have hf : own_f1 B = ((B + 1048576 - 1) / 1048576) * 1048576 := by
      unfold own_f1; rw [if_pos (by rw [Int64.lt_iff_toInt_lt, l1]; exact h)]
    have x1 : (B + 1048576).toInt = B.toInt + 1048576 := by omega
    have x2 : (B + 1048576 - 1).toInt = B.toInt + 1048575 := by omega
    have x3 : ((B + 1048576 - 1) / 1048576).toInt = (B.toInt + 1048575) / 1048576 := by rw [e3.1 (by omega), x2]
    rw [x3] at e4
    clear e1 e2 e3 r1 r2 x1 x2 x3
    have hr : (own_f1 B).toInt = ((B.toInt + 1048575) / 1048576) * 1048576 := by rw [hf]; omega
    clear e4 r3 hf
    have a1 : ¬ own_f1 B < B := by rw [Int64.lt_iff_toInt_lt]; omega
    have e5 := c_lsub (own_f1 B) B
    have r5 := rng64 (own_f1 B - B)
    have a2 : own_f1 B - B < (1048576 : Int64) := by rw [Int64.lt_iff_toInt_lt, l2]; omega
    have a3 : own_lrem (own_f1 B) 1048576 = 0 := by
      apply Int64.toInt_inj.mp
      have e6 := c_lrem (own_f1 B) 1048576 1048576 l2
      change (0 ≤ (own_f1 B).toInt → (own_lrem (own_f1 B) 1048576).toInt = _) ∧ ((own_f1 B).toInt < 0 → (own_lrem (own_f1 B) 1048576).toInt = _) at e6
      rw [show (0 : Int64).toInt = 0 by decide, e6.1 (by omega)]
      omega
    rw [if_neg a1, if_pos a2, if_pos a3]
  · have hf : own_f1 B = B := by unfold own_f1; rw [if_neg h]
    rw [if_neg h, if_pos hf]
theorem own_law (q : Int64) (a b : Int32) : own_f0 q a b = 1 := by
  unfold own_f0
  exact own_core _ (own_bytes_lt q a b)

set_option maxRecDepth 65536 in
set_option maxHeartbeats 40000000 in
theorem comes_1 {Post : Tables → Env → Array Value → State → Outcome → State → Prop} (hpost : ∀ tb e args s v u, (limb_1_1.after args s (.returned v) u = true ∧ limb_1_2.after args s (.returned v) u = true ∧ True) → FrameEnd s (.returned v) u (Jvm.fieldLocs frame_1_writes args s ++ Jvm.arrayLocs frame_1_arrays args s ++ Jvm.staticLocs frame_1_statics s) 0 0 → Post tb e args s (.returned v) u) :
    ArmFor flags0 classFile x code maxLocals ret World_1 tables_1 room_1 Calls_1 rest_1 Pre_1 Post := by
  intro l hfl _ _ p e ha hc hk s m args below hf hA hF happ hP
  obtain ⟨hcalls, hrest, hpre⟩ := hP
  obtain ⟨-, -, -, hnamed, -, -, -, hat⟩ := (Spec.applies_iff hf).mp happ
  obtain ⟨hg, hn⟩ := and_e (Cond.before_iff.mp (show (Jvm.Cond.and given_1 narrow_1).before args s = true from hpre))
  obtain ⟨g1, g2⟩ := and_e hg
  obtain ⟨g3, g4⟩ := and_e g2
  obtain ⟨g5, g6⟩ := and_e g4
  obtain ⟨w0, w1, w2, rfl⟩ : ∃ w0 w1 w2 : Value, args = #[w0, w1, w2] := by
    have hs : args.size = 3 := by simpa [Cond.value, given_1] using g1
    obtain ⟨L⟩ := args
    match L, hs with
    | [w0, w1, w2], _ => exact ⟨w0, w1, w2, rfl⟩
  have hw := fun d (hd : d ∈ tables_1) => atoms_spec (ws := Jvm.Cond.code x code maxLocals ret :: tables_1) hat d (List.mem_cons_of_mem _ hd)
  have hfit : Fit s := fun {y c} hc i hi => by
    obtain ⟨ha, rfl⟩ := Array.getElem?_eq_some_iff.mp hc
    have q := List.all_eq_true.mp ((Array.all_eq_true_iff_forall_mem.mp hF) _ (Array.getElem_mem ha)) i (List.mem_range.mpr hi)
    simpa [Array.getElem?_eq_getElem hi] using q
  obtain ⟨i0, ei0⟩ := isL_v g3
  obtain rfl : w0 = (.long i0) := Option.some.inj ei0
  obtain ⟨i1, ei1⟩ := is_v g5
  obtain rfl : w1 = (.int i1) := Option.some.inj ei1
  obtain ⟨i2, ei2⟩ := is_v g6
  obtain rfl : w2 = (.int i2) := Option.some.inj ei2
  obtain ⟨n, o, h1, h2, h3, _, L, rfl, ⟨hv, N, -⟩, hq⟩ := rm0 l s _ hw tables_1 i0 i1 i2 s.heap s.heap.size (Nat.le_refl _) p e ha hc hk s m _ below hf ((Spec.applies_iff_loose hf).mp happ).1 ⟨rfl, State.Warmed39.refl s, rfl⟩ trivial
  rw [own_law i0 i1 i2] at hv
  subst hv
  refine ⟨n, _, h1, h2, h3, hpost _ _ _ _ _ _ ⟨Cond.after_iff.mpr rfl, Cond.after_iff.mpr (eq_i res_at (Term.int_eval (1)) rfl), trivial⟩ ⟨hq.1, hq.2.1, (hq.2.2.sift fun y hy => Or.inr (N y hy)).mono (by decide) (by decide)⟩⟩
theorem main_1_1 : Claimed_1_1 := comes_1 fun _ _ _ _ _ _ h hF => ⟨h.1, hF⟩
theorem main_1_2 : Claimed_1_2 := comes_1 fun _ _ _ _ _ _ h hF => ⟨h.2.1, hF⟩
end Jvm.Pilot.@@N@@
namespace Jvm.Pilot.@@N@@
open Jvm Jvm.ClassFile Sem Op Lib Jvm.Free Jvm.Stand Jvm.Pilot.@@N@@.Jvm.D
/-! MADE BY PROGRAM (witnessworld.py) out of the Statement's table words and the real class files: 7 classes; the members and pool entries that the words name. The judged class is class 1, her method 1. -/
namespace start1
open Jvm.ClassFile
def u (s : String) : CpInfo := .utf8 (stringToUtf16 s)
/-- a pool by its gaps: so many unusable entries, then the entry; so many at the end -/
def gap : Nat → List CpInfo → List CpInfo
  | 0, r => r
  | n + 1, r => .unusable :: gap n r
def poolList (es : List (Nat × CpInfo)) (last : Nat) : List CpInfo := es.foldr (fun e r => gap e.1 (e.2 :: r)) (gap last [])
def pool (es : List (Nat × CpInfo)) (last : Nat) : Array CpInfo := ⟨poolList es last⟩
def fileOf (pool : Array CpInfo) (this : Nat) (attrs : Array Attribute := #[]) (ms : Array MethodInfo := #[]) (fl : Nat := 33) (sup : Nat := 0) (ifs : Array Nat := #[]) (fds : Array FieldInfo := #[]) : ClassFile where
  minorVersion := 0
  majorVersion := 65
  constantPool := pool
  accessFlags := fl
  thisClass := this
  superClass := sup
  interfaces := ifs
  fields := fds
  methods := ms
  attributes := attrs
def plain (name : String) (sup : Option ClassId) : Class where
  name := name
  kind := .ordinary
  loader := none
  accessFlags := 33
  super := sup
  interfaces := #[]
  cf := none
  fields := #[]
  methods := #[]
  instanceTypes := #[]
  staticTypes := #[]
  resolved := #[]
  callSites := []
  init := .initialized
  statics := none
  mirror := none

def pool0 : Array CpInfo := pool [(5, u "<init>"), (0, u "()V"), (1, .class_ 10), (1, u "java/lang/Object")] 113

def k0m0 : Method := { name := "<init>", desc := "()V", sig := { parameters := [], returnType := none }, accessFlags := 1, code := none }
/-- java/lang/Object -/
def k0 : Class := { plain "java/lang/Object" none with
  accessFlags := 33
  interfaces := #[]
  cf := some (fileOf pool0 8 #[] #[{ accessFlags := 1, nameIndex := 5, descriptorIndex := 6, attributes := #[] }] 33 0 #[] #[])
  fields := #[]
  methods := #[k0m0]
  instanceTypes := #[]
  staticTypes := #[]
  resolved := Array.replicate 124 none
  statics := none }

def pool1 : Array CpInfo := pool [(2, .class_ 4), (1, u "java/lang/Object"), (0, u "<init>"), (0, u "()V"), (0, .long 1048576), (1, .long 524288), (1, .long 4611686018427387903), (1, .integer 1048575), (0, .long 5), (3, .long 9223372036854775808), (1, .methodref 21 22), (0, .class_ 23), (0, .nameAndType 24 25), (0, u "com/example/stochist/stochist/input/ItemLimit"), (0, u "arrayBytes"), (0, u "(J)J"), (0, .class_ 27), (0, u "com/example/stochist/stochist/input/ItemLimitArrayBytesPinLaw"), (2, u "law"), (0, u "(JII)Z")] 3

def k1m0 : Method := { name := "<init>", desc := "()V", sig := { parameters := [], returnType := none }, accessFlags := 1, code := none }
def k1c1 : Code := { maxStack := 6, maxLocals := 13, code := code, exceptionTable := #[], attributes := #[] }
def k1m1 : Method := { name := "law", desc := "(JII)Z", sig := { parameters := [.long, .int, .int], returnType := some .boolean }, accessFlags := 9, code := some k1c1 }
/-- com/example/stochist/stochist/input/ItemLimitArrayBytesPinLaw -/
def k1 : Class := { plain "com/example/stochist/stochist/input/ItemLimitArrayBytesPinLaw" (some 0) with
  accessFlags := 49
  interfaces := #[]
  cf := some (fileOf pool1 26 #[] #[{ accessFlags := 1, nameIndex := 5, descriptorIndex := 6, attributes := #[] }, { accessFlags := 9, nameIndex := 30, descriptorIndex := 31, attributes := #[] }] 49 2 #[] #[])
  fields := #[]
  methods := #[k1m0, k1m1]
  instanceTypes := #[]
  staticTypes := #[]
  resolved := Array.replicate 35 none
  statics := none }

def pool2 : Array CpInfo := pool [(1, .class_ 2), (0, u "com/example/stochist/stochist/input/ItemLimit"), (1, .class_ 6), (1, u "java/lang/Object"), (4, u "memory"), (0, u "J"), (2, u "tableBytes"), (0, u "Ljava/util/function/LongUnaryOperator;"), (2, u "bytesPerRow"), (5, u "(J)J"), (2, u "items"), (0, u "I"), (11, .long 524288), (1, .long 1048576), (6, u "reserved"), (18, .class_ 70), (0, u "com/example/stochist/stochist/input/ItemLimit$Reservation"), (36, u "MIB"), (1, u "KEPT_BACK"), (0, u "REGION"), (4, u "arrayBytes")] 25

def k2c0 : Code := { maxStack := 4, maxLocals := 2, code := prog_40_method_4_code, exceptionTable := #[], attributes := #[] }
def k2m0 : Method := { name := "arrayBytes", desc := "(J)J", sig := { parameters := [.long], returnType := some .long }, accessFlags := 9, code := some k2c0 }
/-- com/example/stochist/stochist/input/ItemLimit -/
def k2 : Class := { plain "com/example/stochist/stochist/input/ItemLimit" (some 0) with
  accessFlags := 49
  interfaces := #[]
  cf := some (fileOf pool2 1 #[.nestMembers #[69]] #[{ accessFlags := 9, nameIndex := 115, descriptorIndex := 25, attributes := #[] }] 49 4 #[] #[{ accessFlags := 26, nameIndex := 107, descriptorIndex := 12, attributes := #[] }, { accessFlags := 26, nameIndex := 109, descriptorIndex := 12, attributes := #[] }, { accessFlags := 26, nameIndex := 110, descriptorIndex := 12, attributes := #[] }, { accessFlags := 10, nameIndex := 50, descriptorIndex := 12, attributes := #[] }, { accessFlags := 18, nameIndex := 11, descriptorIndex := 12, attributes := #[] }, { accessFlags := 18, nameIndex := 15, descriptorIndex := 16, attributes := #[] }, { accessFlags := 18, nameIndex := 19, descriptorIndex := 12, attributes := #[] }, { accessFlags := 18, nameIndex := 28, descriptorIndex := 29, attributes := #[] }])
  fields := #[{ name := "MIB", type := .long, accessFlags := 26, slot := 0, constantValue := 0 }, { name := "KEPT_BACK", type := .long, accessFlags := 26, slot := 1, constantValue := 0 }, { name := "REGION", type := .long, accessFlags := 26, slot := 2, constantValue := 0 }, { name := "reserved", type := .long, accessFlags := 10, slot := 3, constantValue := 0 }, { name := "memory", type := .long, accessFlags := 18, slot := 0, constantValue := 0 }, { name := "tableBytes", type := (.object "java/util/function/LongUnaryOperator"), accessFlags := 18, slot := 1, constantValue := 0 }, { name := "bytesPerRow", type := .long, accessFlags := 18, slot := 2, constantValue := 0 }, { name := "items", type := .int, accessFlags := 18, slot := 3, constantValue := 0 }]
  methods := #[k2m0]
  instanceTypes := #[.long, (.object "java/util/function/LongUnaryOperator"), .long, .int]
  staticTypes := #[.long, .long, .long, .long]
  resolved := Array.replicate 141 none
  statics := none }

def pool3 : Array CpInfo := pool [(1, u "java/lang/Cloneable"), (0, .class_ 1), (0, u "java/lang/Object"), (0, .class_ 3)] 3

/-- java/lang/Cloneable -/
def k3 : Class := { plain "java/lang/Cloneable" (some 0) with
  accessFlags := 1537
  interfaces := #[]
  cf := some (fileOf pool3 2 #[] #[] 1537 4 #[] #[])
  fields := #[]
  methods := #[]
  instanceTypes := #[]
  staticTypes := #[]
  resolved := Array.replicate 8 none
  statics := none }

def pool4 : Array CpInfo := pool [(1, u "java/io/Serializable"), (0, .class_ 1), (0, u "java/lang/Object"), (0, .class_ 3)] 3

/-- java/io/Serializable -/
def k4 : Class := { plain "java/io/Serializable" (some 0) with
  accessFlags := 1537
  interfaces := #[]
  cf := some (fileOf pool4 2 #[] #[] 1537 4 #[] #[])
  fields := #[]
  methods := #[]
  instanceTypes := #[]
  staticTypes := #[]
  resolved := Array.replicate 8 none
  statics := none }

/-- the primitive byte -/
def k5 : Class := { plain "byte" none with kind := .primitive 'B', accessFlags := 0x411 }
/-- [B -/
def k6 : Class := { plain "[B" (some 0) with kind := .array 5 .byte, interfaces := #[3, 4], accessFlags := 1041 }

def heap : Heap := #[]
def classes : Array Class := #[k0, k1, k2, k3, k4, k5, k6]
def interned : List (Array UInt16 × Addr) := []
def slotsUsed : Nat := 0
def theMethod : MethodId := ⟨1, 1⟩
def args0 : Array Value := #[.long 5, .int 3, .int 1]
def aboutOver (below : List Frame) : State where
  vm := { classes := classes, interned := interned.toArray }
  heap := heap
  slotsUsed := slotsUsed
  threads := #[{ frames := .invoking theMethod args0 :: below }]
def below0 : List Frame := [.native { method := ⟨0, 0⟩, args := #[] }]
def about1 : State := aboutOver below0
def p0 : Program := .bare "" "" ""
def e0 : Env := launch0.env 0 0 0
theorem w_frames : about1.frames = Frame.invoking theMethod args0 :: below0 := rfl
set_option maxRecDepth 65536 in
theorem w_args : argsFit about1.vm theMethod args0 = true := by decide +kernel
set_option maxRecDepth 65536 in
theorem w_heap : heapFits about1 = true := by decide +kernel
set_option maxRecDepth 65536 in
theorem w_runnable : about1.curStatus? = some .runnable := by decide +kernel
set_option maxRecDepth 65536 in
theorem w_alone : about1.alone = true := by decide +kernel
set_option maxRecDepth 65536 in
theorem w_named : about1.methodNamed? x = some theMethod := by decide +kernel
set_option maxRecDepth 65536 in
theorem w_hears : about1.hears theMethod below0 = true := by decide +kernel
set_option maxRecDepth 65536 in
theorem w_ripe : about1.ripe theMethod args0 below0 = true := by decide +kernel
theorem w_running : about1.status = .running := rfl
set_option maxRecDepth 65536 in
theorem w_room : about1.hasRoom e0.platform room_1 = true :=
  launch0.hasRoom_least _ room_1 (by decide +kernel) (by decide +kernel) (by decide +kernel) (by decide +kernel) (by decide +kernel) (by decide +kernel)
theorem allAtoms_all (ts : List Jvm.Cond) (a : Array Jvm.Value) (st : Jvm.State) : (allAtoms ts).before a st = ts.all (fun c => c.before a st) := by
  induction ts with
  | nil => rfl
  | cons c t ih =>
    show (Jvm.Cond.and c (allAtoms t)).before a st = _
    rw [Jvm.Cond.before_and, ih, List.all_cons]
def words1 : List Jvm.Cond := Jvm.Cond.code x code maxLocals ret :: tables_1
/-- a 'code' word, met by the world's own term for the bytes: nothing is compared byte by byte -/
theorem code_word {y : MethodName} {bytes : ByteArray} {mx : Nat} {rt : Option FieldType} {a : Array Value} {s : State} {m : MethodId} {meth : Method} {c : Code} (h1 : s.methodNamed? y = some m) (h2 : s.vm.method? m = some meth) (h3 : meth.code = some c) (h4 : c.code = bytes)
    (h5 : (c.maxLocals == mx && c.exceptionTable.isEmpty && decide (c.maxStack ≤ mostOperands) && decide (meth.sig.returnType = rt) && !meth.locks && decide (parseMethodDescriptor y.desc = some meth.sig)) = true) : (Jvm.Cond.code y bytes mx rt).before a s = true := by
  simp only [Bool.and_eq_true, beq_iff_eq, Bool.not_eq_true', decide_eq_true_eq] at h5
  obtain ⟨⟨⟨⟨⟨g1, g2⟩, g3⟩, g4⟩, g5⟩, g6⟩ := h5
  simp [Cond.before, Cond.holds, Cond.value, h1, h2, h3, h4, g1, g2, g3, g4, g5, g6]
def isCode : Jvm.Cond → Bool
  | .code _ _ _ _ => true
  | _ => false
theorem all_split {L : List Jvm.Cond} {P : Jvm.Cond → Bool} (h1 : L.all (fun c => isCode c || P c) = true) (h2 : ∀ c ∈ L.filter isCode, P c = true) : L.all P = true := by
  refine List.all_eq_true.mpr fun c hc => ?_
  have h := List.all_eq_true.mp h1 c hc
  rcases Bool.eq_false_or_eq_true (isCode c) with hi | hi
  · exact h2 c (List.mem_filter.mpr ⟨hc, hi⟩)
  · simpa [hi] using h
set_option maxRecDepth 65536 in
theorem w_c0 : (Jvm.Cond.code x code maxLocals ret).before args0 about1 = true := code_word (m := ⟨1, 1⟩) (meth := k1m1) (c := k1c1) (by decide +kernel) rfl rfl rfl (by decide +kernel)
set_option maxRecDepth 65536 in
theorem w_c1 : (Jvm.Cond.code ({ cls := "com/example/stochist/stochist/input/ItemLimit", name := "arrayBytes", desc := "(J)J" } : Jvm.MethodName) prog_40_method_4_code (2 : Nat) (Option.some Jvm.ClassFile.FieldType.long)).before args0 about1 = true := code_word (m := ⟨2, 0⟩) (meth := k2m0) (c := k2c0) (by decide +kernel) rfl rfl rfl (by decide +kernel)
def codes1 : List Jvm.Cond := [Jvm.Cond.code x code maxLocals ret, Jvm.Cond.code ({ cls := "com/example/stochist/stochist/input/ItemLimit", name := "arrayBytes", desc := "(J)J" } : Jvm.MethodName) prog_40_method_4_code (2 : Nat) (Option.some Jvm.ClassFile.FieldType.long)]
set_option maxRecDepth 65536 in
theorem codes_eq : words1.filter isCode = codes1 := rfl
theorem w_codes : ∀ c ∈ words1.filter isCode, c.before args0 about1 = true := by
  rw [codes_eq]
  intro c hc
  simp only [codes1, List.mem_cons, List.not_mem_nil, or_false] at hc
  rcases hc with rfl | rfl
  · exact w_c0
  · exact w_c1
set_option maxRecDepth 65536 in
theorem w_t1 : words1.all (fun c => isCode c || c.before args0 about1) = true := by decide +kernel
theorem w_tables : (allAtoms (Jvm.Cond.code x code maxLocals ret :: tables_1)).before args0 about1 = true := by
  rw [allAtoms_all]
  show words1.all (fun c => c.before args0 about1) = true
  refine all_split ?_ w_codes
  rw [w_t1]
set_option maxRecDepth 65536 in
theorem w_case : (Jvm.Cond.and given_1 narrow_1).before args0 about1 = true := by decide +kernel
theorem w_applies : (headSpec (Jvm.Cond.code x code maxLocals ret :: tables_1) room_1).applies x e0.platform about1 = true :=
  (Spec.applies_iff w_frames).mpr ⟨w_running, w_runnable, w_alone, w_named, w_hears, w_ripe, w_room, w_tables⟩
theorem atStart : AtStart classFile x code maxLocals ret World_1 tables_1 room_1 Calls_1 rest_1 Pre_1 launch0 p0 e0 about1 theMethod args0 below0 :=
  ⟨lists_1, trivial, launch0.admits_env _ _ _, launch0.least_env, fairChoices_fair.cas, fairChoices_fair.clock, w_frames, w_args, w_heap, w_applies, trivial, trivial, w_case⟩
end start1
theorem witness_1 : WitnessClaimed_1 := ⟨start1.p0, start1.e0, start1.about1, start1.theMethod, start1.args0, start1.below0, start1.atStart⟩
end Jvm.Pilot.@@N@@
