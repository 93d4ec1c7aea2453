import JvmDerived
import JvmDerived.Pilot.@@N@@Statement
import JvmDerived.Pilot.@@N@@Code
set_option linter.unusedVariables false
set_option linter.unusedSimpArgs false
namespace Jvm.RoadKit
open Sem ClassFile Op Lib Jvm.Stand Jvm.Free Jvm.LawKit
section New
variable {p : Program} {l : Launch} {e : Env} {R : Room} {s : State} {m : MethodId} {args : Array Value} {below : List Frame} {meth : Method} {c : Code} {T : State} {locs : List Loc} {cells slots : Nat}
theorem retI (X : Stand p l e R s m args below meth c T locs cells slots) (hx : p.tables.exec = Jvm.exec) {pc : Nat} {Ls : Array Slot} {z : Int32} {rest : List Value} (hret : meth.sig.returnType = some .int) (hd : decode c.code pc = .ok (.ireturn, 1)) {fs : List Frame}
    (hl : ∀ (f : JFrame) (acts : List Action), f.method = m → f.locked = none → f.entered = [] → (doReturn e (T.setTop f) acts (some (.int z))).1 = T.setFrames fs) : Steps p.tables e below (T.setTop (mkF m pc Ls (.int z :: rest))) (T.setFrames fs) := by
  have hm' : T.vm.method? m = some meth := X.method'
  have hn : narrow .int (.int z) = .int z := rfl
  show Steps p.tables e below (T.setTop { method := m, pc := pc, locals := Ls, stack := _ :: rest, locked := none }) _
  jvm_step X.here [X.here.top, hx, hd, hm', hret, hn]
  first | (intro acts; rw [hl _ acts rfl rfl rfl]) | rw [hl _ _ rfl rfl rfl]
  exact Steps.refl _
end New
end Jvm.RoadKit
namespace Jvm.Pilot.@@N@@
open Jvm Jvm.ClassFile Sem Op Lib Jvm.Free Jvm.Stand Jvm.LawKit Jvm.RoadKit Bundle Jvm.Pilot.@@N@@.Jvm.D
def own_irem (a b : Int32) : Int32 := a - (a / b) * b
def own_lrem (a b : Int64) : Int64 := a - (a / b) * b
theorem own_irem_mod (x y : Int32) : own_irem x y = x % y := by
  apply Int32.toInt_inj.mp
  have h1 := Int32.le_toInt (x % y)
  have h2 := Int32.toInt_lt (x % y)
  rw [own_irem, Int32.toInt_sub, Int32.toInt_mul, Int32.toInt_div, Int.bmod_mul_bmod, Int.sub_bmod_bmod, Int.mul_comm (x.toInt.tdiv y.toInt), ← Int.tmod_def, ← Int32.toInt_mod]
  exact Int.bmod_eq_of_le_mul_two (by omega) (by omega)
theorem own_n5 {p nn : Int32} (h : nn = (own_irem (p &&& (2147483647 : Int32)) (5 : Int32)) + (1 : Int32)) : nn = (1 : Int32) ∨ nn = (2 : Int32) ∨ nn = (3 : Int32) ∨ nn = (4 : Int32) ∨ nn = (5 : Int32) := by
  have h1 := c_mask p 2147483647 31 (by decide) (by decide)
  have h2 := c_irem (p &&& (2147483647 : Int32)) 5 5 (by decide)
  have h3 := c_iadd ((p &&& (2147483647 : Int32)) % 5) 1
  rw [show (1 : Int32).toInt = 1 by decide] at h3
  have h4 := rng32 (((p &&& (2147483647 : Int32)) % 5) + 1)
  have h5 : ((p &&& (2147483647 : Int32)) % 5).toInt = (p &&& (2147483647 : Int32)).toInt % 5 := h2.1 (by rw [h1]; omega)
  rw [own_irem_mod] at h
  rw [← h] at h3 h4
  simp only [← Int32.toInt_inj, show (1 : Int32).toInt = 1 by decide, show (2 : Int32).toInt = 2 by decide, show (3 : Int32).toInt = 3 by decide, show (4 : Int32).toInt = 4 by decide, show (5 : Int32).toInt = 5 by decide]
  generalize ((p &&& (2147483647 : Int32)) % 5).toInt = z at *
  omega
def own_Rg (k : Int) (v : Int64) : Prop := -2147483648 ≤ v.toInt ∧ v.toInt ≤ 2147483648 + k * 1048576 ∧ k ≤ 8 ∧ 0 ≤ k
theorem own_R0 {p : Int32} {v : Int64} (h : v = p.toInt64) : own_Rg 0 v := by
  have := rng32 p
  rw [h]; unfold own_Rg; rw [c_i2l]; omega
theorem own_m (p : Int32) : 0 ≤ (p &&& (1048575 : Int32)).toInt64.toInt ∧ (p &&& (1048575 : Int32)).toInt64.toInt < 1048576 := by
  have h1 := c_mask p 1048575 20 (by decide) (by decide)
  rw [c_i2l, h1]; omega
theorem own_Rs {k : Int} {p : Int32} {v v' : Int64} (hk : k + 1 ≤ 8) (R : own_Rg k v) (h : v' = v + (p &&& (1048575 : Int32)).toInt64) : own_Rg (k + 1) v' := by
  have h1 := own_m p
  have h2 := c_ladd v (p &&& (1048575 : Int32)).toInt64
  rw [← h] at h2
  have h3 := rng64 v'
  unfold own_Rg at *
  omega
theorem own_b {k : Int} {v : Int64} (R : own_Rg k v) : B53 v := by
  unfold own_Rg at R
  exact ⟨by omega, by omega⟩
theorem own_bm (p : Int32) : B53 (p &&& (1048575 : Int32)).toInt64 := by
  have h1 := own_m p
  exact ⟨by omega, by omega⟩
theorem own_nn1 {j k : Int} {v w : Int64} (R : own_Rg j v) (S : own_Rg k w) : Jvm.Free.Fl.NoNaN64 (FP.dadd (FP.l2d v) (FP.l2d w)) := nn_w (dadd_w (own_b R) (own_b S))
theorem own_nn2 {j k : Int} {v w : Int64} (R : own_Rg j v) (S : own_Rg k w) : Jvm.Free.Fl.NoNaN64 (FP.ddiv (FP.dadd (FP.l2d v) (FP.l2d w)) (4611686018427387904 : UInt64)) := by
  exact Jvm.Free.Fl.ddiv_out (own_nn1 R S) (by unfold Jvm.Free.Fl.Fin64; decide +kernel) (by unfold Jvm.Free.Fl.Nz64; decide +kernel)

theorem d1_0 : decode prog_6_method_5_code 0 = .ok (.aload_n 0, 1) := by decide +kernel
theorem d1_1 : decode prog_6_method_5_code 1 = .ok (.arraylength, 1) := by decide +kernel
theorem d1_2 : decode prog_6_method_5_code 2 = .ok (.iconst 2, 1) := by decide +kernel
theorem d1_3 : decode prog_6_method_5_code 3 = .ok (.idiv, 1) := by decide +kernel
theorem d1_4 : decode prog_6_method_5_code 4 = .ok (.istore_n 1, 1) := by decide +kernel
theorem d1_5 : decode prog_6_method_5_code 5 = .ok (.aload_n 0, 1) := by decide +kernel
theorem d1_6 : decode prog_6_method_5_code 6 = .ok (.arraylength, 1) := by decide +kernel
theorem d1_7 : decode prog_6_method_5_code 7 = .ok (.iconst 2, 1) := by decide +kernel
theorem d1_8 : decode prog_6_method_5_code 8 = .ok (.irem, 1) := by decide +kernel
theorem d1_9 : decode prog_6_method_5_code 9 = .ok (.iconst 1, 1) := by decide +kernel
theorem d1_10 : decode prog_6_method_5_code 10 = .ok (.if_icmp .ne 9, 3) := by decide +kernel
theorem d1_13 : decode prog_6_method_5_code 13 = .ok (.aload_n 0, 1) := by decide +kernel
theorem d1_14 : decode prog_6_method_5_code 14 = .ok (.iload_n 1, 1) := by decide +kernel
theorem d1_15 : decode prog_6_method_5_code 15 = .ok (.daload, 1) := by decide +kernel
theorem d1_16 : decode prog_6_method_5_code 16 = .ok (.goto 16, 3) := by decide +kernel
theorem d1_32 : decode prog_6_method_5_code 32 = .ok (.dreturn, 1) := by decide +kernel
theorem pn_1 : plainName "com/example/gyre/bench/Handoff" = true := by first | (simp [plainName, overriddenIn]; done) | decide +kernel
theorem ef_rm1_1 (m : MethodId) (o0 : Addr) : entryFrame m #[(.ref o0)] 2 = mkF m 0 #[.val (.ref o0), .unset] [] := by first | (simp [entryFrame, mkF, argsToLocals, Value.category]; done) | rfl
def rm1_1Q (Z : State) (o0 : Addr) (y0 : UInt64) (h0 : Heap) (n0 : Nat) (v : Option Value) (h : Heap) (L : List Loc) : Prop := v = some (.double y0) ∧ Fr n0 L ∧ h = h0
set_option maxRecDepth 65536 in
set_option maxHeartbeats 40000000 in
theorem rm1_1 (l : Launch) (Z : State) (aw : Array Value) (hw : ∀ d ∈ tables_1, d.before aw Z = true) (ws : List Jvm.Cond) (o0 : Addr) (k0 : ClassId) (y0 : UInt64) (h0 : Heap) (n0 : Nat) (Z0 : n0 ≤ h0.size) (V_a : Arv Z h0 o0 k0 .double (1 : Int32) [(.double y0)] (.double (FP.l2d 0))) :
    MetFree l (⟨"com/example/gyre/bench/Handoff", "median", "([D)D"⟩ : MethodName) (head1 (Jvm.Cond.code (⟨"com/example/gyre/bench/Handoff", "median", "([D)D"⟩ : MethodName) prog_6_method_5_code 2 (some .double) :: ws) ({ frames := 0, cells := 0, slots := 0, locals := 0 } : Room)) (fun a U => a = #[(.ref o0)] ∧ Z.Warmed39 U.vm ∧ U.heap = h0) (fun _ _ _ _ _ => True) (fun _ U o U' => ∃ v L, o = .returned v ∧ rm1_1Q Z o0 y0 h0 n0 v U'.heap L ∧ FrameEnd U o U' L ({ frames := 0, cells := 0, slots := 0, locals := 0 } : Room).cells ({ frames := 0, cells := 0, slots := 0, locals := 0 } : Room).slots) := by
  refine MetFree.of_bodySF (plainFor_of_name pn_1) hisR ?_
  intro p e s m args below meth c s₁ Bd hml0 hP hK
  obtain ⟨rfl, hZ, hh⟩ := hP
  have hx := Bd.exec
  have hby := Bd.bytes
  have hml : c.maxLocals = 2 := hml0
  have hown : s.vm.findClass "com/example/gyre/bench/Handoff" = some m.cls := findClass_of_methodNamed Bd.named
  have hnm := (name_of_methodNamed Bd.named Bd.method).1
  have X0 : Stand p l e ({ frames := 0, cells := 0, slots := 0, locals := 0 } : Room) s m #[(.ref o0)] below meth c s₁ [] 0 0 := Stand.of_body Bd
  have e0 : s₁.heap = h0 := by rw [← hh, Bd.state]; rfl
  have N0 := Fr.nil n0
  have pre0 : ∀ t, Steps p.tables e below (s₁.setTop (mkF m 0 #[.val (.ref o0), .unset] [])) t → Steps p.tables e below (s₁.setTop (entryFrame m #[(.ref o0)] 2)) t := fun t k => castTop (ef_rm1_1 m o0) k
  obtain ⟨cl1, Ar1, -, S1, N1', -, -⟩ := id V_a
  obtain ⟨cl2, Ar2, -, S2, N2', -, -⟩ := id V_a
  obtain ⟨cl3, Ar3, q3, S3, N3', H3, G3⟩ := id V_a
  have hin3 : ¬ ((0 : Int32) < 0 ∨ cl3.slots.size ≤ ((0 : Int32)).toNatClampNeg) := inb_of S3 ⟨by decide, by decide⟩
  obtain ⟨fs, hr, hrun, hended, hW, hsame⟩ := X0.leave (v := some (.double y0)) (fun h => by rw [Bd.returns] at h; cases h)
  refine ⟨_, _, pre0 _ ?_, hrun, hended, _, _, rfl, ?_, ⟨_, rfl⟩, hW, hsame.mono (by decide) (by decide)⟩
  · show Steps p.tables e below (s₁.setTop (mkF m 0 #[.val (.ref o0), .unset] [])) _
    refine XS.aloadN X0.here hx rfl (hb hby d1_0) rfl rfl ?_
    show Steps p.tables e below (s₁.setTop (mkF m 1 #[.val (.ref o0), .unset] [(.ref o0)])) _
    refine X0.arraylength hx (by rw [e0]; exact Ar1.1) (State.isArrayOf_alike hZ.alike Ar1.2.1) (g := (mkF m 1 #[.val (.ref o0), .unset] [(.ref o0)])) rfl rfl (hb hby d1_1) _ ?_
    rw [len_of S1 N1']
    show Steps p.tables e below (s₁.setTop (mkF m 2 #[.val (.ref o0), .unset] [(.int (1 : Int32))])) _
    refine XS.iconst X0.here hx rfl (hb hby d1_2) ?_
    show Steps p.tables e below (s₁.setTop (mkF m 3 #[.val (.ref o0), .unset] [(.int (2 : Int32)), (.int (1 : Int32))])) _
    refine XS.idiv X0.here hx rfl (hb hby d1_3) rfl (by decide) ?_
    rw [show ((1 : Int32) / (2 : Int32)) = (0 : Int32) from by decide]
    show Steps p.tables e below (s₁.setTop (mkF m 4 #[.val (.ref o0), .unset] [(.int (0 : Int32))])) _
    refine XS.istoreN X0.here hx rfl (hb hby d1_4) rfl (l' := #[.val (.ref o0), .val (.int (0 : Int32))]) rfl ?_
    show Steps p.tables e below (s₁.setTop (mkF m 5 #[.val (.ref o0), .val (.int (0 : Int32))] [])) _
    refine XS.aloadN X0.here hx rfl (hb hby d1_5) rfl rfl ?_
    show Steps p.tables e below (s₁.setTop (mkF m 6 #[.val (.ref o0), .val (.int (0 : Int32))] [(.ref o0)])) _
    refine X0.arraylength hx (by rw [e0]; exact Ar2.1) (State.isArrayOf_alike hZ.alike Ar2.2.1) (g := (mkF m 6 #[.val (.ref o0), .val (.int (0 : Int32))] [(.ref o0)])) rfl rfl (hb hby d1_6) _ ?_
    rw [len_of S2 N2']
    show Steps p.tables e below (s₁.setTop (mkF m 7 #[.val (.ref o0), .val (.int (0 : Int32))] [(.int (1 : Int32))])) _
    refine XS.iconst X0.here hx rfl (hb hby d1_7) ?_
    show Steps p.tables e below (s₁.setTop (mkF m 8 #[.val (.ref o0), .val (.int (0 : Int32))] [(.int (2 : Int32)), (.int (1 : Int32))])) _
    refine XS.irem X0.here hx rfl (hb hby d1_8) rfl (by decide) ?_
    rw [show ((1 : Int32) - (1 : Int32) / (2 : Int32) * (2 : Int32)) = (1 : Int32) from by decide]
    show Steps p.tables e below (s₁.setTop (mkF m 9 #[.val (.ref o0), .val (.int (0 : Int32))] [(.int (1 : Int32))])) _
    refine XS.iconst X0.here hx rfl (hb hby d1_9) ?_
    show Steps p.tables e below (s₁.setTop (mkF m 10 #[.val (.ref o0), .val (.int (0 : Int32))] [(.int (1 : Int32)), (.int (1 : Int32))])) _
    refine XS.icmpNo X0.here hx rfl (hb hby d1_10) rfl (teq (rfl : (1 : Int32) = (1 : Int32))).2 ?_
    show Steps p.tables e below (s₁.setTop (mkF m 13 #[.val (.ref o0), .val (.int (0 : Int32))] [])) _
    refine XS.aloadN X0.here hx rfl (hb hby d1_13) rfl rfl ?_
    show Steps p.tables e below (s₁.setTop (mkF m 14 #[.val (.ref o0), .val (.int (0 : Int32))] [(.ref o0)])) _
    refine XS.iloadN X0.here hx rfl (hb hby d1_14) rfl ?_
    show Steps p.tables e below (s₁.setTop (mkF m 15 #[.val (.ref o0), .val (.int (0 : Int32))] [(.int (0 : Int32)), (.ref o0)])) _
    refine X0.daload hx (j := (0 : Int32)) (v := (.double y0)) (by rw [e0]; exact Ar3.1) (State.isArrayOf_alike hZ.alike Ar3.2.1) Ar3.2.2 hin3 (H3.at hin3 rfl) (g := (mkF m 15 #[.val (.ref o0), .val (.int (0 : Int32))] [(.int (0 : Int32)), (.ref o0)])) rfl rfl (hb hby d1_15) _ ?_
    show Steps p.tables e below (s₁.setTop (mkF m 16 #[.val (.ref o0), .val (.int (0 : Int32))] [(.double y0)])) _
    refine XS.goto X0.here hx rfl (pc0 := 16) (pc' := 32) rfl (hb hby d1_16) (by decide) (by decide) ?_
    show Steps p.tables e below (s₁.setTop (mkF m 32 #[.val (.ref o0), .val (.int (0 : Int32))] [(.double y0)])) _
    jvm_step X0.here [X0.here.top, hx, (hb hby d1_32), X0.method', Bd.returns, narrow]
    first | (intro acts; rw [hr _ acts rfl rfl rfl]) | rw [hr _ _ rfl rfl rfl]
    exact Steps.refl _
  · show rm1_1Q Z o0 y0 h0 n0 _ s₁.heap _
    rw [e0]
    exact ⟨rfl, N0, rfl⟩
theorem d1_19 : decode prog_6_method_5_code 19 = .ok (.aload_n 0, 1) := by decide +kernel
theorem d1_20 : decode prog_6_method_5_code 20 = .ok (.iload_n 1, 1) := by decide +kernel
theorem d1_21 : decode prog_6_method_5_code 21 = .ok (.iconst 1, 1) := by decide +kernel
theorem d1_22 : decode prog_6_method_5_code 22 = .ok (.isub, 1) := by decide +kernel
theorem d1_23 : decode prog_6_method_5_code 23 = .ok (.daload, 1) := by decide +kernel
theorem d1_24 : decode prog_6_method_5_code 24 = .ok (.aload_n 0, 1) := by decide +kernel
theorem d1_25 : decode prog_6_method_5_code 25 = .ok (.iload_n 1, 1) := by decide +kernel
theorem d1_26 : decode prog_6_method_5_code 26 = .ok (.daload, 1) := by decide +kernel
theorem d1_27 : decode prog_6_method_5_code 27 = .ok (.dadd, 1) := by decide +kernel
theorem d1_28 : decode prog_6_method_5_code 28 = .ok (.ldc2_w 177, 3) := by decide +kernel
theorem d1_31 : decode prog_6_method_5_code 31 = .ok (.ddiv, 1) := by decide +kernel
theorem ef_rm1_2 (m : MethodId) (o0 : Addr) : entryFrame m #[(.ref o0)] 2 = mkF m 0 #[.val (.ref o0), .unset] [] := by first | (simp [entryFrame, mkF, argsToLocals, Value.category]; done) | rfl
def rm1_2Q (Z : State) (o0 : Addr) (y0 y1 : UInt64) (h0 : Heap) (n0 : Nat) (v : Option Value) (h : Heap) (L : List Loc) : Prop := v = some (.double (FP.ddiv (FP.dadd y0 y1) (4611686018427387904 : UInt64))) ∧ Fr n0 L ∧ h = h0
set_option maxRecDepth 65536 in
set_option maxHeartbeats 40000000 in
theorem rm1_2 (l : Launch) (Z : State) (aw : Array Value) (hw : ∀ d ∈ tables_1, d.before aw Z = true) (ws : List Jvm.Cond) (o0 : Addr) (k0 : ClassId) (y0 y1 : UInt64) (h0 : Heap) (n0 : Nat) (Z0 : n0 ≤ h0.size) (V_a : Arv Z h0 o0 k0 .double (2 : Int32) [(.double y0), (.double y1)] (.double (FP.l2d 0))) (hn1 : Jvm.Free.Fl.NoNaN64 (FP.dadd y0 y1)) (hn2 : Jvm.Free.Fl.NoNaN64 (FP.ddiv (FP.dadd y0 y1) (4611686018427387904 : UInt64))) :
    MetFree l (⟨"com/example/gyre/bench/Handoff", "median", "([D)D"⟩ : MethodName) (head1 (Jvm.Cond.code (⟨"com/example/gyre/bench/Handoff", "median", "([D)D"⟩ : MethodName) prog_6_method_5_code 2 (some .double) :: ws) ({ frames := 0, cells := 0, slots := 0, locals := 0 } : Room)) (fun a U => a = #[(.ref o0)] ∧ Z.Warmed39 U.vm ∧ U.heap = h0) (fun _ _ _ _ _ => True) (fun _ U o U' => ∃ v L, o = .returned v ∧ rm1_2Q Z o0 y0 y1 h0 n0 v U'.heap L ∧ FrameEnd U o U' L ({ frames := 0, cells := 0, slots := 0, locals := 0 } : Room).cells ({ frames := 0, cells := 0, slots := 0, locals := 0 } : Room).slots) := by
  refine MetFree.of_bodySF (plainFor_of_name pn_1) hisR ?_
  intro p e s m args below meth c s₁ Bd hml0 hP hK
  obtain ⟨rfl, hZ, hh⟩ := hP
  have hx := Bd.exec
  have hby := Bd.bytes
  have hml : c.maxLocals = 2 := hml0
  have hown : s.vm.findClass "com/example/gyre/bench/Handoff" = some m.cls := findClass_of_methodNamed Bd.named
  have hnm := (name_of_methodNamed Bd.named Bd.method).1
  have X0 : Stand p l e ({ frames := 0, cells := 0, slots := 0, locals := 0 } : Room) s m #[(.ref o0)] below meth c s₁ [] 0 0 := Stand.of_body Bd
  have e0 : s₁.heap = h0 := by rw [← hh, Bd.state]; rfl
  have N0 := Fr.nil n0
  have pre0 : ∀ t, Steps p.tables e below (s₁.setTop (mkF m 0 #[.val (.ref o0), .unset] [])) t → Steps p.tables e below (s₁.setTop (entryFrame m #[(.ref o0)] 2)) t := fun t k => castTop (ef_rm1_2 m o0) k
  obtain ⟨cl1, Ar1, -, S1, N1', -, -⟩ := id V_a
  obtain ⟨cl2, Ar2, -, S2, N2', -, -⟩ := id V_a
  obtain ⟨cl3, Ar3, q3, S3, N3', H3, G3⟩ := id V_a
  have hin3 : ¬ ((0 : Int32) < 0 ∨ cl3.slots.size ≤ ((0 : Int32)).toNatClampNeg) := inb_of S3 ⟨by decide, by decide⟩
  obtain ⟨cl4, Ar4, q4, S4, N4', H4, G4⟩ := id V_a
  have hin4 : ¬ ((1 : Int32) < 0 ∨ cl4.slots.size ≤ ((1 : Int32)).toNatClampNeg) := inb_of S4 ⟨by decide, by decide⟩
  obtain ⟨fs, hr, hrun, hended, hW, hsame⟩ := X0.leave (v := some (.double (FP.ddiv (FP.dadd y0 y1) (4611686018427387904 : UInt64)))) (fun h => by rw [Bd.returns] at h; cases h)
  refine ⟨_, _, pre0 _ ?_, hrun, hended, _, _, rfl, ?_, ⟨_, rfl⟩, hW, hsame.mono (by decide) (by decide)⟩
  · show Steps p.tables e below (s₁.setTop (mkF m 0 #[.val (.ref o0), .unset] [])) _
    refine XS.aloadN X0.here hx rfl (hb hby d1_0) rfl rfl ?_
    show Steps p.tables e below (s₁.setTop (mkF m 1 #[.val (.ref o0), .unset] [(.ref o0)])) _
    refine X0.arraylength hx (by rw [e0]; exact Ar1.1) (State.isArrayOf_alike hZ.alike Ar1.2.1) (g := (mkF m 1 #[.val (.ref o0), .unset] [(.ref o0)])) rfl rfl (hb hby d1_1) _ ?_
    rw [len_of S1 N1']
    show Steps p.tables e below (s₁.setTop (mkF m 2 #[.val (.ref o0), .unset] [(.int (2 : Int32))])) _
    refine XS.iconst X0.here hx rfl (hb hby d1_2) ?_
    show Steps p.tables e below (s₁.setTop (mkF m 3 #[.val (.ref o0), .unset] [(.int (2 : Int32)), (.int (2 : Int32))])) _
    refine XS.idiv X0.here hx rfl (hb hby d1_3) rfl (by decide) ?_
    rw [show ((2 : Int32) / (2 : Int32)) = (1 : Int32) from by decide]
    show Steps p.tables e below (s₁.setTop (mkF m 4 #[.val (.ref o0), .unset] [(.int (1 : Int32))])) _
    refine XS.istoreN X0.here hx rfl (hb hby d1_4) rfl (l' := #[.val (.ref o0), .val (.int (1 : Int32))]) rfl ?_
    show Steps p.tables e below (s₁.setTop (mkF m 5 #[.val (.ref o0), .val (.int (1 : Int32))] [])) _
    refine XS.aloadN X0.here hx rfl (hb hby d1_5) rfl rfl ?_
    show Steps p.tables e below (s₁.setTop (mkF m 6 #[.val (.ref o0), .val (.int (1 : Int32))] [(.ref o0)])) _
    refine X0.arraylength hx (by rw [e0]; exact Ar2.1) (State.isArrayOf_alike hZ.alike Ar2.2.1) (g := (mkF m 6 #[.val (.ref o0), .val (.int (1 : Int32))] [(.ref o0)])) rfl rfl (hb hby d1_6) _ ?_
    rw [len_of S2 N2']
    show Steps p.tables e below (s₁.setTop (mkF m 7 #[.val (.ref o0), .val (.int (1 : Int32))] [(.int (2 : Int32))])) _
    refine XS.iconst X0.here hx rfl (hb hby d1_7) ?_
    show Steps p.tables e below (s₁.setTop (mkF m 8 #[.val (.ref o0), .val (.int (1 : Int32))] [(.int (2 : Int32)), (.int (2 : Int32))])) _
    refine XS.irem X0.here hx rfl (hb hby d1_8) rfl (by decide) ?_
    rw [show ((2 : Int32) - (2 : Int32) / (2 : Int32) * (2 : Int32)) = (0 : Int32) from by decide]
    show Steps p.tables e below (s₁.setTop (mkF m 9 #[.val (.ref o0), .val (.int (1 : Int32))] [(.int (0 : Int32))])) _
    refine XS.iconst X0.here hx rfl (hb hby d1_9) ?_
    show Steps p.tables e below (s₁.setTop (mkF m 10 #[.val (.ref o0), .val (.int (1 : Int32))] [(.int (1 : Int32)), (.int (0 : Int32))])) _
    refine XS.icmpYes X0.here hx rfl (pc0 := 10) (pc' := 19) rfl (hb hby d1_10) rfl (feq ((by decide) : ¬ ((0 : Int32) = (1 : Int32)))).2 (by decide) (by decide) ?_
    show Steps p.tables e below (s₁.setTop (mkF m 19 #[.val (.ref o0), .val (.int (1 : Int32))] [])) _
    refine XS.aloadN X0.here hx rfl (hb hby d1_19) rfl rfl ?_
    show Steps p.tables e below (s₁.setTop (mkF m 20 #[.val (.ref o0), .val (.int (1 : Int32))] [(.ref o0)])) _
    refine XS.iloadN X0.here hx rfl (hb hby d1_20) rfl ?_
    show Steps p.tables e below (s₁.setTop (mkF m 21 #[.val (.ref o0), .val (.int (1 : Int32))] [(.int (1 : Int32)), (.ref o0)])) _
    refine XS.iconst X0.here hx rfl (hb hby d1_21) ?_
    show Steps p.tables e below (s₁.setTop (mkF m 22 #[.val (.ref o0), .val (.int (1 : Int32))] [(.int (1 : Int32)), (.int (1 : Int32)), (.ref o0)])) _
    refine XS.isub X0.here hx rfl (hb hby d1_22) rfl ?_
    rw [show ((1 : Int32) - (1 : Int32)) = (0 : Int32) from by decide]
    show Steps p.tables e below (s₁.setTop (mkF m 23 #[.val (.ref o0), .val (.int (1 : Int32))] [(.int (0 : Int32)), (.ref o0)])) _
    refine X0.daload hx (j := (0 : Int32)) (v := (.double y0)) (by rw [e0]; exact Ar3.1) (State.isArrayOf_alike hZ.alike Ar3.2.1) Ar3.2.2 hin3 (H3.at hin3 rfl) (g := (mkF m 23 #[.val (.ref o0), .val (.int (1 : Int32))] [(.int (0 : Int32)), (.ref o0)])) rfl rfl (hb hby d1_23) _ ?_
    show Steps p.tables e below (s₁.setTop (mkF m 24 #[.val (.ref o0), .val (.int (1 : Int32))] [(.double y0)])) _
    refine XS.aloadN X0.here hx rfl (hb hby d1_24) rfl rfl ?_
    show Steps p.tables e below (s₁.setTop (mkF m 25 #[.val (.ref o0), .val (.int (1 : Int32))] [(.ref o0), (.double y0)])) _
    refine XS.iloadN X0.here hx rfl (hb hby d1_25) rfl ?_
    show Steps p.tables e below (s₁.setTop (mkF m 26 #[.val (.ref o0), .val (.int (1 : Int32))] [(.int (1 : Int32)), (.ref o0), (.double y0)])) _
    refine X0.daload hx (j := (1 : Int32)) (v := (.double y1)) (by rw [e0]; exact Ar4.1) (State.isArrayOf_alike hZ.alike Ar4.2.1) Ar4.2.2 hin4 (H4.at hin4 rfl) (g := (mkF m 26 #[.val (.ref o0), .val (.int (1 : Int32))] [(.int (1 : Int32)), (.ref o0), (.double y0)])) rfl rfl (hb hby d1_26) _ ?_
    show Steps p.tables e below (s₁.setTop (mkF m 27 #[.val (.ref o0), .val (.int (1 : Int32))] [(.double y1), (.double y0)])) _
    refine XS.daddS X0.here hx rfl (hb hby d1_27) rfl hn1 rfl ?_
    show Steps p.tables e below (s₁.setTop (mkF m 28 #[.val (.ref o0), .val (.int (1 : Int32))] [(.double (FP.dadd y0 y1))])) _
    refine X0.ldc2DoubleC hx hown (mvT hZ (hw _ (List.mem_of_getElem? (i := 7) rfl))) (g := (mkF m 28 #[.val (.ref o0), .val (.int (1 : Int32))] [(.double (FP.dadd y0 y1))])) rfl (hb hby d1_28) _ ?_
    show Steps p.tables e below (s₁.setTop (mkF m 31 #[.val (.ref o0), .val (.int (1 : Int32))] [(.double (4611686018427387904 : UInt64)), (.double (FP.dadd y0 y1))])) _
    refine XS.ddivS X0.here hx rfl (hb hby d1_31) rfl hn2 rfl ?_
    show Steps p.tables e below (s₁.setTop (mkF m 32 #[.val (.ref o0), .val (.int (1 : Int32))] [(.double (FP.ddiv (FP.dadd y0 y1) (4611686018427387904 : UInt64)))])) _
    jvm_step X0.here [X0.here.top, hx, (hb hby d1_32), X0.method', Bd.returns, narrow]
    first | (intro acts; rw [hr _ acts rfl rfl rfl]) | rw [hr _ _ rfl rfl rfl]
    exact Steps.refl _
  · show rm1_2Q Z o0 y0 y1 h0 n0 _ s₁.heap _
    rw [e0]
    exact ⟨rfl, N0, rfl⟩
theorem ef_rm1_3 (m : MethodId) (o0 : Addr) : entryFrame m #[(.ref o0)] 2 = mkF m 0 #[.val (.ref o0), .unset] [] := by first | (simp [entryFrame, mkF, argsToLocals, Value.category]; done) | rfl
def rm1_3Q (Z : State) (o0 : Addr) (y0 y1 y2 : UInt64) (h0 : Heap) (n0 : Nat) (v : Option Value) (h : Heap) (L : List Loc) : Prop := v = some (.double y1) ∧ Fr n0 L ∧ h = h0
set_option maxRecDepth 65536 in
set_option maxHeartbeats 40000000 in
theorem rm1_3 (l : Launch) (Z : State) (aw : Array Value) (hw : ∀ d ∈ tables_1, d.before aw Z = true) (ws : List Jvm.Cond) (o0 : Addr) (k0 : ClassId) (y0 y1 y2 : UInt64) (h0 : Heap) (n0 : Nat) (Z0 : n0 ≤ h0.size) (V_a : Arv Z h0 o0 k0 .double (3 : Int32) [(.double y0), (.double y1), (.double y2)] (.double (FP.l2d 0))) :
    MetFree l (⟨"com/example/gyre/bench/Handoff", "median", "([D)D"⟩ : MethodName) (head1 (Jvm.Cond.code (⟨"com/example/gyre/bench/Handoff", "median", "([D)D"⟩ : MethodName) prog_6_method_5_code 2 (some .double) :: ws) ({ frames := 0, cells := 0, slots := 0, locals := 0 } : Room)) (fun a U => a = #[(.ref o0)] ∧ Z.Warmed39 U.vm ∧ U.heap = h0) (fun _ _ _ _ _ => True) (fun _ U o U' => ∃ v L, o = .returned v ∧ rm1_3Q Z o0 y0 y1 y2 h0 n0 v U'.heap L ∧ FrameEnd U o U' L ({ frames := 0, cells := 0, slots := 0, locals := 0 } : Room).cells ({ frames := 0, cells := 0, slots := 0, locals := 0 } : Room).slots) := by
  refine MetFree.of_bodySF (plainFor_of_name pn_1) hisR ?_
  intro p e s m args below meth c s₁ Bd hml0 hP hK
  obtain ⟨rfl, hZ, hh⟩ := hP
  have hx := Bd.exec
  have hby := Bd.bytes
  have hml : c.maxLocals = 2 := hml0
  have hown : s.vm.findClass "com/example/gyre/bench/Handoff" = some m.cls := findClass_of_methodNamed Bd.named
  have hnm := (name_of_methodNamed Bd.named Bd.method).1
  have X0 : Stand p l e ({ frames := 0, cells := 0, slots := 0, locals := 0 } : Room) s m #[(.ref o0)] below meth c s₁ [] 0 0 := Stand.of_body Bd
  have e0 : s₁.heap = h0 := by rw [← hh, Bd.state]; rfl
  have N0 := Fr.nil n0
  have pre0 : ∀ t, Steps p.tables e below (s₁.setTop (mkF m 0 #[.val (.ref o0), .unset] [])) t → Steps p.tables e below (s₁.setTop (entryFrame m #[(.ref o0)] 2)) t := fun t k => castTop (ef_rm1_3 m o0) k
  obtain ⟨cl1, Ar1, -, S1, N1', -, -⟩ := id V_a
  obtain ⟨cl2, Ar2, -, S2, N2', -, -⟩ := id V_a
  obtain ⟨cl3, Ar3, q3, S3, N3', H3, G3⟩ := id V_a
  have hin3 : ¬ ((1 : Int32) < 0 ∨ cl3.slots.size ≤ ((1 : Int32)).toNatClampNeg) := inb_of S3 ⟨by decide, by decide⟩
  obtain ⟨fs, hr, hrun, hended, hW, hsame⟩ := X0.leave (v := some (.double y1)) (fun h => by rw [Bd.returns] at h; cases h)
  refine ⟨_, _, pre0 _ ?_, hrun, hended, _, _, rfl, ?_, ⟨_, rfl⟩, hW, hsame.mono (by decide) (by decide)⟩
  · show Steps p.tables e below (s₁.setTop (mkF m 0 #[.val (.ref o0), .unset] [])) _
    refine XS.aloadN X0.here hx rfl (hb hby d1_0) rfl rfl ?_
    show Steps p.tables e below (s₁.setTop (mkF m 1 #[.val (.ref o0), .unset] [(.ref o0)])) _
    refine X0.arraylength hx (by rw [e0]; exact Ar1.1) (State.isArrayOf_alike hZ.alike Ar1.2.1) (g := (mkF m 1 #[.val (.ref o0), .unset] [(.ref o0)])) rfl rfl (hb hby d1_1) _ ?_
    rw [len_of S1 N1']
    show Steps p.tables e below (s₁.setTop (mkF m 2 #[.val (.ref o0), .unset] [(.int (3 : Int32))])) _
    refine XS.iconst X0.here hx rfl (hb hby d1_2) ?_
    show Steps p.tables e below (s₁.setTop (mkF m 3 #[.val (.ref o0), .unset] [(.int (2 : Int32)), (.int (3 : Int32))])) _
    refine XS.idiv X0.here hx rfl (hb hby d1_3) rfl (by decide) ?_
    rw [show ((3 : Int32) / (2 : Int32)) = (1 : Int32) from by decide]
    show Steps p.tables e below (s₁.setTop (mkF m 4 #[.val (.ref o0), .unset] [(.int (1 : Int32))])) _
    refine XS.istoreN X0.here hx rfl (hb hby d1_4) rfl (l' := #[.val (.ref o0), .val (.int (1 : Int32))]) rfl ?_
    show Steps p.tables e below (s₁.setTop (mkF m 5 #[.val (.ref o0), .val (.int (1 : Int32))] [])) _
    refine XS.aloadN X0.here hx rfl (hb hby d1_5) rfl rfl ?_
    show Steps p.tables e below (s₁.setTop (mkF m 6 #[.val (.ref o0), .val (.int (1 : Int32))] [(.ref o0)])) _
    refine X0.arraylength hx (by rw [e0]; exact Ar2.1) (State.isArrayOf_alike hZ.alike Ar2.2.1) (g := (mkF m 6 #[.val (.ref o0), .val (.int (1 : Int32))] [(.ref o0)])) rfl rfl (hb hby d1_6) _ ?_
    rw [len_of S2 N2']
    show Steps p.tables e below (s₁.setTop (mkF m 7 #[.val (.ref o0), .val (.int (1 : Int32))] [(.int (3 : Int32))])) _
    refine XS.iconst X0.here hx rfl (hb hby d1_7) ?_
    show Steps p.tables e below (s₁.setTop (mkF m 8 #[.val (.ref o0), .val (.int (1 : Int32))] [(.int (2 : Int32)), (.int (3 : Int32))])) _
    refine XS.irem X0.here hx rfl (hb hby d1_8) rfl (by decide) ?_
    rw [show ((3 : Int32) - (3 : Int32) / (2 : Int32) * (2 : Int32)) = (1 : Int32) from by decide]
    show Steps p.tables e below (s₁.setTop (mkF m 9 #[.val (.ref o0), .val (.int (1 : Int32))] [(.int (1 : Int32))])) _
    refine XS.iconst X0.here hx rfl (hb hby d1_9) ?_
    show Steps p.tables e below (s₁.setTop (mkF m 10 #[.val (.ref o0), .val (.int (1 : Int32))] [(.int (1 : Int32)), (.int (1 : Int32))])) _
    refine XS.icmpNo X0.here hx rfl (hb hby d1_10) rfl (teq (rfl : (1 : Int32) = (1 : Int32))).2 ?_
    show Steps p.tables e below (s₁.setTop (mkF m 13 #[.val (.ref o0), .val (.int (1 : Int32))] [])) _
    refine XS.aloadN X0.here hx rfl (hb hby d1_13) rfl rfl ?_
    show Steps p.tables e below (s₁.setTop (mkF m 14 #[.val (.ref o0), .val (.int (1 : Int32))] [(.ref o0)])) _
    refine XS.iloadN X0.here hx rfl (hb hby d1_14) rfl ?_
    show Steps p.tables e below (s₁.setTop (mkF m 15 #[.val (.ref o0), .val (.int (1 : Int32))] [(.int (1 : Int32)), (.ref o0)])) _
    refine X0.daload hx (j := (1 : Int32)) (v := (.double y1)) (by rw [e0]; exact Ar3.1) (State.isArrayOf_alike hZ.alike Ar3.2.1) Ar3.2.2 hin3 (H3.at hin3 rfl) (g := (mkF m 15 #[.val (.ref o0), .val (.int (1 : Int32))] [(.int (1 : Int32)), (.ref o0)])) rfl rfl (hb hby d1_15) _ ?_
    show Steps p.tables e below (s₁.setTop (mkF m 16 #[.val (.ref o0), .val (.int (1 : Int32))] [(.double y1)])) _
    refine XS.goto X0.here hx rfl (pc0 := 16) (pc' := 32) rfl (hb hby d1_16) (by decide) (by decide) ?_
    show Steps p.tables e below (s₁.setTop (mkF m 32 #[.val (.ref o0), .val (.int (1 : Int32))] [(.double y1)])) _
    jvm_step X0.here [X0.here.top, hx, (hb hby d1_32), X0.method', Bd.returns, narrow]
    first | (intro acts; rw [hr _ acts rfl rfl rfl]) | rw [hr _ _ rfl rfl rfl]
    exact Steps.refl _
  · show rm1_3Q Z o0 y0 y1 y2 h0 n0 _ s₁.heap _
    rw [e0]
    exact ⟨rfl, N0, rfl⟩
theorem ef_rm1_4 (m : MethodId) (o0 : Addr) : entryFrame m #[(.ref o0)] 2 = mkF m 0 #[.val (.ref o0), .unset] [] := by first | (simp [entryFrame, mkF, argsToLocals, Value.category]; done) | rfl
def rm1_4Q (Z : State) (o0 : Addr) (y0 y1 y2 y3 : UInt64) (h0 : Heap) (n0 : Nat) (v : Option Value) (h : Heap) (L : List Loc) : Prop := v = some (.double (FP.ddiv (FP.dadd y1 y2) (4611686018427387904 : UInt64))) ∧ Fr n0 L ∧ h = h0
set_option maxRecDepth 65536 in
set_option maxHeartbeats 40000000 in
theorem rm1_4 (l : Launch) (Z : State) (aw : Array Value) (hw : ∀ d ∈ tables_1, d.before aw Z = true) (ws : List Jvm.Cond) (o0 : Addr) (k0 : ClassId) (y0 y1 y2 y3 : UInt64) (h0 : Heap) (n0 : Nat) (Z0 : n0 ≤ h0.size) (V_a : Arv Z h0 o0 k0 .double (4 : Int32) [(.double y0), (.double y1), (.double y2), (.double y3)] (.double (FP.l2d 0))) (hn1 : Jvm.Free.Fl.NoNaN64 (FP.dadd y1 y2)) (hn2 : Jvm.Free.Fl.NoNaN64 (FP.ddiv (FP.dadd y1 y2) (4611686018427387904 : UInt64))) :
    MetFree l (⟨"com/example/gyre/bench/Handoff", "median", "([D)D"⟩ : MethodName) (head1 (Jvm.Cond.code (⟨"com/example/gyre/bench/Handoff", "median", "([D)D"⟩ : MethodName) prog_6_method_5_code 2 (some .double) :: ws) ({ frames := 0, cells := 0, slots := 0, locals := 0 } : Room)) (fun a U => a = #[(.ref o0)] ∧ Z.Warmed39 U.vm ∧ U.heap = h0) (fun _ _ _ _ _ => True) (fun _ U o U' => ∃ v L, o = .returned v ∧ rm1_4Q Z o0 y0 y1 y2 y3 h0 n0 v U'.heap L ∧ FrameEnd U o U' L ({ frames := 0, cells := 0, slots := 0, locals := 0 } : Room).cells ({ frames := 0, cells := 0, slots := 0, locals := 0 } : Room).slots) := by
  refine MetFree.of_bodySF (plainFor_of_name pn_1) hisR ?_
  intro p e s m args below meth c s₁ Bd hml0 hP hK
  obtain ⟨rfl, hZ, hh⟩ := hP
  have hx := Bd.exec
  have hby := Bd.bytes
  have hml : c.maxLocals = 2 := hml0
  have hown : s.vm.findClass "com/example/gyre/bench/Handoff" = some m.cls := findClass_of_methodNamed Bd.named
  have hnm := (name_of_methodNamed Bd.named Bd.method).1
  have X0 : Stand p l e ({ frames := 0, cells := 0, slots := 0, locals := 0 } : Room) s m #[(.ref o0)] below meth c s₁ [] 0 0 := Stand.of_body Bd
  have e0 : s₁.heap = h0 := by rw [← hh, Bd.state]; rfl
  have N0 := Fr.nil n0
  have pre0 : ∀ t, Steps p.tables e below (s₁.setTop (mkF m 0 #[.val (.ref o0), .unset] [])) t → Steps p.tables e below (s₁.setTop (entryFrame m #[(.ref o0)] 2)) t := fun t k => castTop (ef_rm1_4 m o0) k
  obtain ⟨cl1, Ar1, -, S1, N1', -, -⟩ := id V_a
  obtain ⟨cl2, Ar2, -, S2, N2', -, -⟩ := id V_a
  obtain ⟨cl3, Ar3, q3, S3, N3', H3, G3⟩ := id V_a
  have hin3 : ¬ ((1 : Int32) < 0 ∨ cl3.slots.size ≤ ((1 : Int32)).toNatClampNeg) := inb_of S3 ⟨by decide, by decide⟩
  obtain ⟨cl4, Ar4, q4, S4, N4', H4, G4⟩ := id V_a
  have hin4 : ¬ ((2 : Int32) < 0 ∨ cl4.slots.size ≤ ((2 : Int32)).toNatClampNeg) := inb_of S4 ⟨by decide, by decide⟩
  obtain ⟨fs, hr, hrun, hended, hW, hsame⟩ := X0.leave (v := some (.double (FP.ddiv (FP.dadd y1 y2) (4611686018427387904 : UInt64)))) (fun h => by rw [Bd.returns] at h; cases h)
  refine ⟨_, _, pre0 _ ?_, hrun, hended, _, _, rfl, ?_, ⟨_, rfl⟩, hW, hsame.mono (by decide) (by decide)⟩
  · show Steps p.tables e below (s₁.setTop (mkF m 0 #[.val (.ref o0), .unset] [])) _
    refine XS.aloadN X0.here hx rfl (hb hby d1_0) rfl rfl ?_
    show Steps p.tables e below (s₁.setTop (mkF m 1 #[.val (.ref o0), .unset] [(.ref o0)])) _
    refine X0.arraylength hx (by rw [e0]; exact Ar1.1) (State.isArrayOf_alike hZ.alike Ar1.2.1) (g := (mkF m 1 #[.val (.ref o0), .unset] [(.ref o0)])) rfl rfl (hb hby d1_1) _ ?_
    rw [len_of S1 N1']
    show Steps p.tables e below (s₁.setTop (mkF m 2 #[.val (.ref o0), .unset] [(.int (4 : Int32))])) _
    refine XS.iconst X0.here hx rfl (hb hby d1_2) ?_
    show Steps p.tables e below (s₁.setTop (mkF m 3 #[.val (.ref o0), .unset] [(.int (2 : Int32)), (.int (4 : Int32))])) _
    refine XS.idiv X0.here hx rfl (hb hby d1_3) rfl (by decide) ?_
    rw [show ((4 : Int32) / (2 : Int32)) = (2 : Int32) from by decide]
    show Steps p.tables e below (s₁.setTop (mkF m 4 #[.val (.ref o0), .unset] [(.int (2 : Int32))])) _
    refine XS.istoreN X0.here hx rfl (hb hby d1_4) rfl (l' := #[.val (.ref o0), .val (.int (2 : Int32))]) rfl ?_
    show Steps p.tables e below (s₁.setTop (mkF m 5 #[.val (.ref o0), .val (.int (2 : Int32))] [])) _
    refine XS.aloadN X0.here hx rfl (hb hby d1_5) rfl rfl ?_
    show Steps p.tables e below (s₁.setTop (mkF m 6 #[.val (.ref o0), .val (.int (2 : Int32))] [(.ref o0)])) _
    refine X0.arraylength hx (by rw [e0]; exact Ar2.1) (State.isArrayOf_alike hZ.alike Ar2.2.1) (g := (mkF m 6 #[.val (.ref o0), .val (.int (2 : Int32))] [(.ref o0)])) rfl rfl (hb hby d1_6) _ ?_
    rw [len_of S2 N2']
    show Steps p.tables e below (s₁.setTop (mkF m 7 #[.val (.ref o0), .val (.int (2 : Int32))] [(.int (4 : Int32))])) _
    refine XS.iconst X0.here hx rfl (hb hby d1_7) ?_
    show Steps p.tables e below (s₁.setTop (mkF m 8 #[.val (.ref o0), .val (.int (2 : Int32))] [(.int (2 : Int32)), (.int (4 : Int32))])) _
    refine XS.irem X0.here hx rfl (hb hby d1_8) rfl (by decide) ?_
    rw [show ((4 : Int32) - (4 : Int32) / (2 : Int32) * (2 : Int32)) = (0 : Int32) from by decide]
    show Steps p.tables e below (s₁.setTop (mkF m 9 #[.val (.ref o0), .val (.int (2 : Int32))] [(.int (0 : Int32))])) _
    refine XS.iconst X0.here hx rfl (hb hby d1_9) ?_
    show Steps p.tables e below (s₁.setTop (mkF m 10 #[.val (.ref o0), .val (.int (2 : Int32))] [(.int (1 : Int32)), (.int (0 : Int32))])) _
    refine XS.icmpYes X0.here hx rfl (pc0 := 10) (pc' := 19) rfl (hb hby d1_10) rfl (feq ((by decide) : ¬ ((0 : Int32) = (1 : Int32)))).2 (by decide) (by decide) ?_
    show Steps p.tables e below (s₁.setTop (mkF m 19 #[.val (.ref o0), .val (.int (2 : Int32))] [])) _
    refine XS.aloadN X0.here hx rfl (hb hby d1_19) rfl rfl ?_
    show Steps p.tables e below (s₁.setTop (mkF m 20 #[.val (.ref o0), .val (.int (2 : Int32))] [(.ref o0)])) _
    refine XS.iloadN X0.here hx rfl (hb hby d1_20) rfl ?_
    show Steps p.tables e below (s₁.setTop (mkF m 21 #[.val (.ref o0), .val (.int (2 : Int32))] [(.int (2 : Int32)), (.ref o0)])) _
    refine XS.iconst X0.here hx rfl (hb hby d1_21) ?_
    show Steps p.tables e below (s₁.setTop (mkF m 22 #[.val (.ref o0), .val (.int (2 : Int32))] [(.int (1 : Int32)), (.int (2 : Int32)), (.ref o0)])) _
    refine XS.isub X0.here hx rfl (hb hby d1_22) rfl ?_
    rw [show ((2 : Int32) - (1 : Int32)) = (1 : Int32) from by decide]
    show Steps p.tables e below (s₁.setTop (mkF m 23 #[.val (.ref o0), .val (.int (2 : Int32))] [(.int (1 : Int32)), (.ref o0)])) _
    refine X0.daload hx (j := (1 : Int32)) (v := (.double y1)) (by rw [e0]; exact Ar3.1) (State.isArrayOf_alike hZ.alike Ar3.2.1) Ar3.2.2 hin3 (H3.at hin3 rfl) (g := (mkF m 23 #[.val (.ref o0), .val (.int (2 : Int32))] [(.int (1 : Int32)), (.ref o0)])) rfl rfl (hb hby d1_23) _ ?_
    show Steps p.tables e below (s₁.setTop (mkF m 24 #[.val (.ref o0), .val (.int (2 : Int32))] [(.double y1)])) _
    refine XS.aloadN X0.here hx rfl (hb hby d1_24) rfl rfl ?_
    show Steps p.tables e below (s₁.setTop (mkF m 25 #[.val (.ref o0), .val (.int (2 : Int32))] [(.ref o0), (.double y1)])) _
    refine XS.iloadN X0.here hx rfl (hb hby d1_25) rfl ?_
    show Steps p.tables e below (s₁.setTop (mkF m 26 #[.val (.ref o0), .val (.int (2 : Int32))] [(.int (2 : Int32)), (.ref o0), (.double y1)])) _
    refine X0.daload hx (j := (2 : Int32)) (v := (.double y2)) (by rw [e0]; exact Ar4.1) (State.isArrayOf_alike hZ.alike Ar4.2.1) Ar4.2.2 hin4 (H4.at hin4 rfl) (g := (mkF m 26 #[.val (.ref o0), .val (.int (2 : Int32))] [(.int (2 : Int32)), (.ref o0), (.double y1)])) rfl rfl (hb hby d1_26) _ ?_
    show Steps p.tables e below (s₁.setTop (mkF m 27 #[.val (.ref o0), .val (.int (2 : Int32))] [(.double y2), (.double y1)])) _
    refine XS.daddS X0.here hx rfl (hb hby d1_27) rfl hn1 rfl ?_
    show Steps p.tables e below (s₁.setTop (mkF m 28 #[.val (.ref o0), .val (.int (2 : Int32))] [(.double (FP.dadd y1 y2))])) _
    refine X0.ldc2DoubleC hx hown (mvT hZ (hw _ (List.mem_of_getElem? (i := 7) rfl))) (g := (mkF m 28 #[.val (.ref o0), .val (.int (2 : Int32))] [(.double (FP.dadd y1 y2))])) rfl (hb hby d1_28) _ ?_
    show Steps p.tables e below (s₁.setTop (mkF m 31 #[.val (.ref o0), .val (.int (2 : Int32))] [(.double (4611686018427387904 : UInt64)), (.double (FP.dadd y1 y2))])) _
    refine XS.ddivS X0.here hx rfl (hb hby d1_31) rfl hn2 rfl ?_
    show Steps p.tables e below (s₁.setTop (mkF m 32 #[.val (.ref o0), .val (.int (2 : Int32))] [(.double (FP.ddiv (FP.dadd y1 y2) (4611686018427387904 : UInt64)))])) _
    jvm_step X0.here [X0.here.top, hx, (hb hby d1_32), X0.method', Bd.returns, narrow]
    first | (intro acts; rw [hr _ acts rfl rfl rfl]) | rw [hr _ _ rfl rfl rfl]
    exact Steps.refl _
  · show rm1_4Q Z o0 y0 y1 y2 y3 h0 n0 _ s₁.heap _
    rw [e0]
    exact ⟨rfl, N0, rfl⟩
theorem ef_rm1_5 (m : MethodId) (o0 : Addr) : entryFrame m #[(.ref o0)] 2 = mkF m 0 #[.val (.ref o0), .unset] [] := by first | (simp [entryFrame, mkF, argsToLocals, Value.category]; done) | rfl
def rm1_5Q (Z : State) (o0 : Addr) (y0 y1 y2 y3 y4 : UInt64) (h0 : Heap) (n0 : Nat) (v : Option Value) (h : Heap) (L : List Loc) : Prop := v = some (.double y2) ∧ Fr n0 L ∧ h = h0
set_option maxRecDepth 65536 in
set_option maxHeartbeats 40000000 in
theorem rm1_5 (l : Launch) (Z : State) (aw : Array Value) (hw : ∀ d ∈ tables_1, d.before aw Z = true) (ws : List Jvm.Cond) (o0 : Addr) (k0 : ClassId) (y0 y1 y2 y3 y4 : UInt64) (h0 : Heap) (n0 : Nat) (Z0 : n0 ≤ h0.size) (V_a : Arv Z h0 o0 k0 .double (5 : Int32) [(.double y0), (.double y1), (.double y2), (.double y3), (.double y4)] (.double (FP.l2d 0))) :
    MetFree l (⟨"com/example/gyre/bench/Handoff", "median", "([D)D"⟩ : MethodName) (head1 (Jvm.Cond.code (⟨"com/example/gyre/bench/Handoff", "median", "([D)D"⟩ : MethodName) prog_6_method_5_code 2 (some .double) :: ws) ({ frames := 0, cells := 0, slots := 0, locals := 0 } : Room)) (fun a U => a = #[(.ref o0)] ∧ Z.Warmed39 U.vm ∧ U.heap = h0) (fun _ _ _ _ _ => True) (fun _ U o U' => ∃ v L, o = .returned v ∧ rm1_5Q Z o0 y0 y1 y2 y3 y4 h0 n0 v U'.heap L ∧ FrameEnd U o U' L ({ frames := 0, cells := 0, slots := 0, locals := 0 } : Room).cells ({ frames := 0, cells := 0, slots := 0, locals := 0 } : Room).slots) := by
  refine MetFree.of_bodySF (plainFor_of_name pn_1) hisR ?_
  intro p e s m args below meth c s₁ Bd hml0 hP hK
  obtain ⟨rfl, hZ, hh⟩ := hP
  have hx := Bd.exec
  have hby := Bd.bytes
  have hml : c.maxLocals = 2 := hml0
  have hown : s.vm.findClass "com/example/gyre/bench/Handoff" = some m.cls := findClass_of_methodNamed Bd.named
  have hnm := (name_of_methodNamed Bd.named Bd.method).1
  have X0 : Stand p l e ({ frames := 0, cells := 0, slots := 0, locals := 0 } : Room) s m #[(.ref o0)] below meth c s₁ [] 0 0 := Stand.of_body Bd
  have e0 : s₁.heap = h0 := by rw [← hh, Bd.state]; rfl
  have N0 := Fr.nil n0
  have pre0 : ∀ t, Steps p.tables e below (s₁.setTop (mkF m 0 #[.val (.ref o0), .unset] [])) t → Steps p.tables e below (s₁.setTop (entryFrame m #[(.ref o0)] 2)) t := fun t k => castTop (ef_rm1_5 m o0) k
  obtain ⟨cl1, Ar1, -, S1, N1', -, -⟩ := id V_a
  obtain ⟨cl2, Ar2, -, S2, N2', -, -⟩ := id V_a
  obtain ⟨cl3, Ar3, q3, S3, N3', H3, G3⟩ := id V_a
  have hin3 : ¬ ((2 : Int32) < 0 ∨ cl3.slots.size ≤ ((2 : Int32)).toNatClampNeg) := inb_of S3 ⟨by decide, by decide⟩
  obtain ⟨fs, hr, hrun, hended, hW, hsame⟩ := X0.leave (v := some (.double y2)) (fun h => by rw [Bd.returns] at h; cases h)
  refine ⟨_, _, pre0 _ ?_, hrun, hended, _, _, rfl, ?_, ⟨_, rfl⟩, hW, hsame.mono (by decide) (by decide)⟩
  · show Steps p.tables e below (s₁.setTop (mkF m 0 #[.val (.ref o0), .unset] [])) _
    refine XS.aloadN X0.here hx rfl (hb hby d1_0) rfl rfl ?_
    show Steps p.tables e below (s₁.setTop (mkF m 1 #[.val (.ref o0), .unset] [(.ref o0)])) _
    refine X0.arraylength hx (by rw [e0]; exact Ar1.1) (State.isArrayOf_alike hZ.alike Ar1.2.1) (g := (mkF m 1 #[.val (.ref o0), .unset] [(.ref o0)])) rfl rfl (hb hby d1_1) _ ?_
    rw [len_of S1 N1']
    show Steps p.tables e below (s₁.setTop (mkF m 2 #[.val (.ref o0), .unset] [(.int (5 : Int32))])) _
    refine XS.iconst X0.here hx rfl (hb hby d1_2) ?_
    show Steps p.tables e below (s₁.setTop (mkF m 3 #[.val (.ref o0), .unset] [(.int (2 : Int32)), (.int (5 : Int32))])) _
    refine XS.idiv X0.here hx rfl (hb hby d1_3) rfl (by decide) ?_
    rw [show ((5 : Int32) / (2 : Int32)) = (2 : Int32) from by decide]
    show Steps p.tables e below (s₁.setTop (mkF m 4 #[.val (.ref o0), .unset] [(.int (2 : Int32))])) _
    refine XS.istoreN X0.here hx rfl (hb hby d1_4) rfl (l' := #[.val (.ref o0), .val (.int (2 : Int32))]) rfl ?_
    show Steps p.tables e below (s₁.setTop (mkF m 5 #[.val (.ref o0), .val (.int (2 : Int32))] [])) _
    refine XS.aloadN X0.here hx rfl (hb hby d1_5) rfl rfl ?_
    show Steps p.tables e below (s₁.setTop (mkF m 6 #[.val (.ref o0), .val (.int (2 : Int32))] [(.ref o0)])) _
    refine X0.arraylength hx (by rw [e0]; exact Ar2.1) (State.isArrayOf_alike hZ.alike Ar2.2.1) (g := (mkF m 6 #[.val (.ref o0), .val (.int (2 : Int32))] [(.ref o0)])) rfl rfl (hb hby d1_6) _ ?_
    rw [len_of S2 N2']
    show Steps p.tables e below (s₁.setTop (mkF m 7 #[.val (.ref o0), .val (.int (2 : Int32))] [(.int (5 : Int32))])) _
    refine XS.iconst X0.here hx rfl (hb hby d1_7) ?_
    show Steps p.tables e below (s₁.setTop (mkF m 8 #[.val (.ref o0), .val (.int (2 : Int32))] [(.int (2 : Int32)), (.int (5 : Int32))])) _
    refine XS.irem X0.here hx rfl (hb hby d1_8) rfl (by decide) ?_
    rw [show ((5 : Int32) - (5 : Int32) / (2 : Int32) * (2 : Int32)) = (1 : Int32) from by decide]
    show Steps p.tables e below (s₁.setTop (mkF m 9 #[.val (.ref o0), .val (.int (2 : Int32))] [(.int (1 : Int32))])) _
    refine XS.iconst X0.here hx rfl (hb hby d1_9) ?_
    show Steps p.tables e below (s₁.setTop (mkF m 10 #[.val (.ref o0), .val (.int (2 : Int32))] [(.int (1 : Int32)), (.int (1 : Int32))])) _
    refine XS.icmpNo X0.here hx rfl (hb hby d1_10) rfl (teq (rfl : (1 : Int32) = (1 : Int32))).2 ?_
    show Steps p.tables e below (s₁.setTop (mkF m 13 #[.val (.ref o0), .val (.int (2 : Int32))] [])) _
    refine XS.aloadN X0.here hx rfl (hb hby d1_13) rfl rfl ?_
    show Steps p.tables e below (s₁.setTop (mkF m 14 #[.val (.ref o0), .val (.int (2 : Int32))] [(.ref o0)])) _
    refine XS.iloadN X0.here hx rfl (hb hby d1_14) rfl ?_
    show Steps p.tables e below (s₁.setTop (mkF m 15 #[.val (.ref o0), .val (.int (2 : Int32))] [(.int (2 : Int32)), (.ref o0)])) _
    refine X0.daload hx (j := (2 : Int32)) (v := (.double y2)) (by rw [e0]; exact Ar3.1) (State.isArrayOf_alike hZ.alike Ar3.2.1) Ar3.2.2 hin3 (H3.at hin3 rfl) (g := (mkF m 15 #[.val (.ref o0), .val (.int (2 : Int32))] [(.int (2 : Int32)), (.ref o0)])) rfl rfl (hb hby d1_15) _ ?_
    show Steps p.tables e below (s₁.setTop (mkF m 16 #[.val (.ref o0), .val (.int (2 : Int32))] [(.double y2)])) _
    refine XS.goto X0.here hx rfl (pc0 := 16) (pc' := 32) rfl (hb hby d1_16) (by decide) (by decide) ?_
    show Steps p.tables e below (s₁.setTop (mkF m 32 #[.val (.ref o0), .val (.int (2 : Int32))] [(.double y2)])) _
    jvm_step X0.here [X0.here.top, hx, (hb hby d1_32), X0.method', Bd.returns, narrow]
    first | (intro acts; rw [hr _ acts rfl rfl rfl]) | rw [hr _ _ rfl rfl rfl]
    exact Steps.refl _
  · show rm1_5Q Z o0 y0 y1 y2 y3 y4 h0 n0 _ s₁.heap _
    rw [e0]
    exact ⟨rfl, N0, rfl⟩
theorem pn_0 : plainName "com/example/gyre/bench/HandoffMedianPinLaw" = true := by first | (simp [plainName, overriddenIn]; done) | decide +kernel
theorem pd_rm0_0 : parseMethodDescriptor "([D)D" = some ⟨[(.array .double)], some .double⟩ := by decide +kernel
theorem ef_rm0 (m : MethodId) (p0 : Int32) (p1 : Int32) (p2 : Int32) (p3 : Int32) (p4 : Int32) (p5 : Int32) : entryFrame m #[(.int p0), (.int p1), (.int p2), (.int p3), (.int p4), (.int p5)] maxLocals = mkF m 0 #[.val (.int p0), .val (.int p1), .val (.int p2), .val (.int p3), .val (.int p4), .val (.int p5), .unset, .unset, .unset, .unset, .unset, .unset, .unset, .unset, .unset, .unset, .unset, .unset, .unset, .unset, .unset, .unset] [] := by first | (simp [entryFrame, mkF, argsToLocals, Value.category, maxLocals]; done) | rfl
def rm0Q (Z : State) (p0 : Int32) (p1 : Int32) (p2 : Int32) (p3 : Int32) (p4 : Int32) (p5 : Int32) (h0 : Heap) (n0 : Nat) (v : Option Value) (h : Heap) (L : List Loc) : Prop := v = some (.int (1 : Int32)) ∧ Fr n0 L
set_option maxRecDepth 65536 in
set_option maxHeartbeats 40000000 in
theorem rm0 (l : Launch) (Z : State) (aw : Array Value) (hw : ∀ d ∈ tables_1, d.before aw Z = true) (ws : List Jvm.Cond) (p0 : Int32) (p1 : Int32) (p2 : Int32) (p3 : Int32) (p4 : Int32) (p5 : Int32) (h0 : Heap) (n0 : Nat) (Z0 : n0 ≤ h0.size) :
    MetFree l x (head1 (Jvm.Cond.code x code maxLocals ret :: ws) room_1) (fun a U => a = #[(.int p0), (.int p1), (.int p2), (.int p3), (.int p4), (.int p5)] ∧ Z.Warmed39 U.vm ∧ U.heap = h0) (fun _ _ _ _ _ => True) (fun _ U o U' => ∃ v L, o = .returned v ∧ rm0Q Z p0 p1 p2 p3 p4 p5 h0 n0 v U'.heap L ∧ FrameEnd U o U' L room_1.cells room_1.slots) := by
  refine MetFree.of_bodySF (plainFor_of_name pn_0) hisR ?_
  intro p e s m args below meth c s₁ Bd hml0 hP hK
  obtain ⟨rfl, hZ, hh⟩ := hP
  have hx := Bd.exec
  have hby := Bd.bytes
  have hml : c.maxLocals = 22 := hml0
  have hown : s.vm.findClass "com/example/gyre/bench/HandoffMedianPinLaw" = some m.cls := findClass_of_methodNamed Bd.named
  have hnm := (name_of_methodNamed Bd.named Bd.method).1
  have X0 : Stand p l e room_1 s m #[(.int p0), (.int p1), (.int p2), (.int p3), (.int p4), (.int p5)] below meth c s₁ [] 0 0 := Stand.of_body Bd
  have e0 : s₁.heap = h0 := by rw [← hh, Bd.state]; rfl
  have N0 := Fr.nil n0
  have pre0 : ∀ t, Steps p.tables e below (s₁.setTop (mkF m 0 #[.val (.int p0), .val (.int p1), .val (.int p2), .val (.int p3), .val (.int p4), .val (.int p5), .unset, .unset, .unset, .unset, .unset, .unset, .unset, .unset, .unset, .unset, .unset, .unset, .unset, .unset, .unset, .unset] [])) t → Steps p.tables e below (s₁.setTop (entryFrame m #[(.int p0), (.int p1), (.int p2), (.int p3), (.int p4), (.int p5)] maxLocals)) t := fun t k => castTop (ef_rm0 m p0 p1 p2 p3 p4 p5) k
  have pre1 : ∀ t, Steps p.tables e below (s₁.setTop (mkF m 8 #[.val (.int p0), .val (.int p1), .val (.int p2), .val (.int p3), .val (.int p4), .val (.int p5), .unset, .unset, .unset, .unset, .unset, .unset, .unset, .unset, .unset, .unset, .unset, .unset, .unset, .unset, .unset, .unset] [(.int ((own_irem (p0 &&& (2147483647 : Int32)) (5 : Int32)) + (1 : Int32)))])) t → Steps p.tables e below (s₁.setTop (entryFrame m #[(.int p0), (.int p1), (.int p2), (.int p3), (.int p4), (.int p5)] maxLocals)) t := fun t k => pre0 t (by
    show Steps p.tables e below (s₁.setTop (mkF m 0 #[.val (.int p0), .val (.int p1), .val (.int p2), .val (.int p3), .val (.int p4), .val (.int p5), .unset, .unset, .unset, .unset, .unset, .unset, .unset, .unset, .unset, .unset, .unset, .unset, .unset, .unset, .unset, .unset] [])) _
    refine XS.iloadN X0.here hx rfl (hb hby at_0) rfl ?_
    show Steps p.tables e below (s₁.setTop (mkF m 1 #[.val (.int p0), .val (.int p1), .val (.int p2), .val (.int p3), .val (.int p4), .val (.int p5), .unset, .unset, .unset, .unset, .unset, .unset, .unset, .unset, .unset, .unset, .unset, .unset, .unset, .unset, .unset, .unset] [(.int p0)])) _
    refine X0.ldcInt hx hown (mvT hZ (hw _ (List.mem_of_getElem? (i := 0) rfl))) (g := (mkF m 1 #[.val (.int p0), .val (.int p1), .val (.int p2), .val (.int p3), .val (.int p4), .val (.int p5), .unset, .unset, .unset, .unset, .unset, .unset, .unset, .unset, .unset, .unset, .unset, .unset, .unset, .unset, .unset, .unset] [(.int p0)])) rfl (hb hby at_1) _ ?_
    show Steps p.tables e below (s₁.setTop (mkF m 3 #[.val (.int p0), .val (.int p1), .val (.int p2), .val (.int p3), .val (.int p4), .val (.int p5), .unset, .unset, .unset, .unset, .unset, .unset, .unset, .unset, .unset, .unset, .unset, .unset, .unset, .unset, .unset, .unset] [(.int (2147483647 : Int32)), (.int p0)])) _
    refine XS.iand X0.here hx rfl (hb hby at_3) rfl ?_
    show Steps p.tables e below (s₁.setTop (mkF m 4 #[.val (.int p0), .val (.int p1), .val (.int p2), .val (.int p3), .val (.int p4), .val (.int p5), .unset, .unset, .unset, .unset, .unset, .unset, .unset, .unset, .unset, .unset, .unset, .unset, .unset, .unset, .unset, .unset] [(.int (p0 &&& (2147483647 : Int32)))])) _
    refine XS.iconst X0.here hx rfl (hb hby at_4) ?_
    show Steps p.tables e below (s₁.setTop (mkF m 5 #[.val (.int p0), .val (.int p1), .val (.int p2), .val (.int p3), .val (.int p4), .val (.int p5), .unset, .unset, .unset, .unset, .unset, .unset, .unset, .unset, .unset, .unset, .unset, .unset, .unset, .unset, .unset, .unset] [(.int (5 : Int32)), (.int (p0 &&& (2147483647 : Int32)))])) _
    refine XS.irem X0.here hx rfl (hb hby at_5) rfl (by decide) ?_
    show Steps p.tables e below (s₁.setTop (mkF m 6 #[.val (.int p0), .val (.int p1), .val (.int p2), .val (.int p3), .val (.int p4), .val (.int p5), .unset, .unset, .unset, .unset, .unset, .unset, .unset, .unset, .unset, .unset, .unset, .unset, .unset, .unset, .unset, .unset] [(.int (own_irem (p0 &&& (2147483647 : Int32)) (5 : Int32)))])) _
    refine XS.iconst X0.here hx rfl (hb hby at_6) ?_
    show Steps p.tables e below (s₁.setTop (mkF m 7 #[.val (.int p0), .val (.int p1), .val (.int p2), .val (.int p3), .val (.int p4), .val (.int p5), .unset, .unset, .unset, .unset, .unset, .unset, .unset, .unset, .unset, .unset, .unset, .unset, .unset, .unset, .unset, .unset] [(.int (1 : Int32)), (.int (own_irem (p0 &&& (2147483647 : Int32)) (5 : Int32)))])) _
    refine XS.iadd X0.here hx rfl (hb hby at_7) rfl ?_
    exact k)
  obtain ⟨nn, hnn⟩ : ∃ z : Int32, z = ((own_irem (p0 &&& (2147483647 : Int32)) (5 : Int32)) + (1 : Int32)) := ⟨_, rfl⟩
  rw [← hnn] at pre1
  have pre2 : ∀ t, Steps p.tables e below (s₁.setTop (mkF m 12 #[.val (.int p0), .val (.int p1), .val (.int p2), .val (.int p3), .val (.int p4), .val (.int p5), .val (.int nn), .unset, .unset, .unset, .unset, .unset, .unset, .unset, .unset, .unset, .unset, .unset, .unset, .unset, .unset, .unset] [(.double (FP.l2d p1.toInt64))])) t → Steps p.tables e below (s₁.setTop (entryFrame m #[(.int p0), (.int p1), (.int p2), (.int p3), (.int p4), (.int p5)] maxLocals)) t := fun t k => pre1 t (by
    show Steps p.tables e below (s₁.setTop (mkF m 8 #[.val (.int p0), .val (.int p1), .val (.int p2), .val (.int p3), .val (.int p4), .val (.int p5), .unset, .unset, .unset, .unset, .unset, .unset, .unset, .unset, .unset, .unset, .unset, .unset, .unset, .unset, .unset, .unset] [(.int nn)])) _
    refine XS.istore X0.here hx rfl (hb hby at_8) rfl (l' := #[.val (.int p0), .val (.int p1), .val (.int p2), .val (.int p3), .val (.int p4), .val (.int p5), .val (.int nn), .unset, .unset, .unset, .unset, .unset, .unset, .unset, .unset, .unset, .unset, .unset, .unset, .unset, .unset, .unset]) rfl ?_
    show Steps p.tables e below (s₁.setTop (mkF m 10 #[.val (.int p0), .val (.int p1), .val (.int p2), .val (.int p3), .val (.int p4), .val (.int p5), .val (.int nn), .unset, .unset, .unset, .unset, .unset, .unset, .unset, .unset, .unset, .unset, .unset, .unset, .unset, .unset, .unset] [])) _
    refine XS.iloadN X0.here hx rfl (hb hby at_10) rfl ?_
    show Steps p.tables e below (s₁.setTop (mkF m 11 #[.val (.int p0), .val (.int p1), .val (.int p2), .val (.int p3), .val (.int p4), .val (.int p5), .val (.int nn), .unset, .unset, .unset, .unset, .unset, .unset, .unset, .unset, .unset, .unset, .unset, .unset, .unset, .unset, .unset] [(.int p1)])) _
    refine XS.i2dS X0.here hx rfl (hb hby at_11) rfl (i2d_w _) ?_
    exact k)
  obtain ⟨v0, hv0⟩ : ∃ z : Int64, z = p1.toInt64 := ⟨_, rfl⟩
  rw [← hv0] at pre2
  have R0 := own_R0 hv0
  have pre3 : ∀ t, Steps p.tables e below (s₁.setTop (mkF m 22 #[.val (.int p0), .val (.int p1), .val (.int p2), .val (.int p3), .val (.int p4), .val (.int p5), .val (.int nn), .val (.double (FP.l2d v0)), .second, .unset, .unset, .unset, .unset, .unset, .unset, .unset, .unset, .unset, .unset, .unset, .unset, .unset] [(.double (FP.l2d (v0 + (p2 &&& (1048575 : Int32)).toInt64)))])) t → Steps p.tables e below (s₁.setTop (entryFrame m #[(.int p0), (.int p1), (.int p2), (.int p3), (.int p4), (.int p5)] maxLocals)) t := fun t k => pre2 t (by
    show Steps p.tables e below (s₁.setTop (mkF m 12 #[.val (.int p0), .val (.int p1), .val (.int p2), .val (.int p3), .val (.int p4), .val (.int p5), .val (.int nn), .unset, .unset, .unset, .unset, .unset, .unset, .unset, .unset, .unset, .unset, .unset, .unset, .unset, .unset, .unset] [(.double (FP.l2d v0))])) _
    refine XS.dstore X0.here hx rfl (hb hby at_12) rfl (l' := #[.val (.int p0), .val (.int p1), .val (.int p2), .val (.int p3), .val (.int p4), .val (.int p5), .val (.int nn), .val (.double (FP.l2d v0)), .second, .unset, .unset, .unset, .unset, .unset, .unset, .unset, .unset, .unset, .unset, .unset, .unset, .unset]) rfl ?_
    show Steps p.tables e below (s₁.setTop (mkF m 14 #[.val (.int p0), .val (.int p1), .val (.int p2), .val (.int p3), .val (.int p4), .val (.int p5), .val (.int nn), .val (.double (FP.l2d v0)), .second, .unset, .unset, .unset, .unset, .unset, .unset, .unset, .unset, .unset, .unset, .unset, .unset, .unset] [])) _
    refine XS.dload X0.here hx rfl (hb hby at_14) rfl ?_
    show Steps p.tables e below (s₁.setTop (mkF m 16 #[.val (.int p0), .val (.int p1), .val (.int p2), .val (.int p3), .val (.int p4), .val (.int p5), .val (.int nn), .val (.double (FP.l2d v0)), .second, .unset, .unset, .unset, .unset, .unset, .unset, .unset, .unset, .unset, .unset, .unset, .unset, .unset] [(.double (FP.l2d v0))])) _
    refine XS.iloadN X0.here hx rfl (hb hby at_16) rfl ?_
    show Steps p.tables e below (s₁.setTop (mkF m 17 #[.val (.int p0), .val (.int p1), .val (.int p2), .val (.int p3), .val (.int p4), .val (.int p5), .val (.int nn), .val (.double (FP.l2d v0)), .second, .unset, .unset, .unset, .unset, .unset, .unset, .unset, .unset, .unset, .unset, .unset, .unset, .unset] [(.int p2), (.double (FP.l2d v0))])) _
    refine X0.ldcInt hx hown (mvT hZ (hw _ (List.mem_of_getElem? (i := 1) rfl))) (g := (mkF m 17 #[.val (.int p0), .val (.int p1), .val (.int p2), .val (.int p3), .val (.int p4), .val (.int p5), .val (.int nn), .val (.double (FP.l2d v0)), .second, .unset, .unset, .unset, .unset, .unset, .unset, .unset, .unset, .unset, .unset, .unset, .unset, .unset] [(.int p2), (.double (FP.l2d v0))])) rfl (hb hby at_17) _ ?_
    show Steps p.tables e below (s₁.setTop (mkF m 19 #[.val (.int p0), .val (.int p1), .val (.int p2), .val (.int p3), .val (.int p4), .val (.int p5), .val (.int nn), .val (.double (FP.l2d v0)), .second, .unset, .unset, .unset, .unset, .unset, .unset, .unset, .unset, .unset, .unset, .unset, .unset, .unset] [(.int (1048575 : Int32)), (.int p2), (.double (FP.l2d v0))])) _
    refine XS.iand X0.here hx rfl (hb hby at_19) rfl ?_
    show Steps p.tables e below (s₁.setTop (mkF m 20 #[.val (.int p0), .val (.int p1), .val (.int p2), .val (.int p3), .val (.int p4), .val (.int p5), .val (.int nn), .val (.double (FP.l2d v0)), .second, .unset, .unset, .unset, .unset, .unset, .unset, .unset, .unset, .unset, .unset, .unset, .unset, .unset] [(.int (p2 &&& (1048575 : Int32))), (.double (FP.l2d v0))])) _
    refine XS.i2dS X0.here hx rfl (hb hby at_20) rfl (i2d_w _) ?_
    show Steps p.tables e below (s₁.setTop (mkF m 21 #[.val (.int p0), .val (.int p1), .val (.int p2), .val (.int p3), .val (.int p4), .val (.int p5), .val (.int nn), .val (.double (FP.l2d v0)), .second, .unset, .unset, .unset, .unset, .unset, .unset, .unset, .unset, .unset, .unset, .unset, .unset, .unset] [(.double (FP.l2d (p2 &&& (1048575 : Int32)).toInt64)), (.double (FP.l2d v0))])) _
    refine XS.daddS X0.here hx rfl (hb hby at_21) rfl (nn_w (dadd_w (own_b R0) (own_bm p2))) (dadd_w (own_b R0) (own_bm p2)) ?_
    exact k)
  obtain ⟨v1, hv1⟩ : ∃ z : Int64, z = (v0 + (p2 &&& (1048575 : Int32)).toInt64) := ⟨_, rfl⟩
  rw [← hv1] at pre3
  have R1 := own_Rs (by decide) R0 hv1
  have pre4 : ∀ t, Steps p.tables e below (s₁.setTop (mkF m 32 #[.val (.int p0), .val (.int p1), .val (.int p2), .val (.int p3), .val (.int p4), .val (.int p5), .val (.int nn), .val (.double (FP.l2d v0)), .second, .val (.double (FP.l2d v1)), .second, .unset, .unset, .unset, .unset, .unset, .unset, .unset, .unset, .unset, .unset, .unset] [(.double (FP.l2d (v1 + (p3 &&& (1048575 : Int32)).toInt64)))])) t → Steps p.tables e below (s₁.setTop (entryFrame m #[(.int p0), (.int p1), (.int p2), (.int p3), (.int p4), (.int p5)] maxLocals)) t := fun t k => pre3 t (by
    show Steps p.tables e below (s₁.setTop (mkF m 22 #[.val (.int p0), .val (.int p1), .val (.int p2), .val (.int p3), .val (.int p4), .val (.int p5), .val (.int nn), .val (.double (FP.l2d v0)), .second, .unset, .unset, .unset, .unset, .unset, .unset, .unset, .unset, .unset, .unset, .unset, .unset, .unset] [(.double (FP.l2d v1))])) _
    refine XS.dstore X0.here hx rfl (hb hby at_22) rfl (l' := #[.val (.int p0), .val (.int p1), .val (.int p2), .val (.int p3), .val (.int p4), .val (.int p5), .val (.int nn), .val (.double (FP.l2d v0)), .second, .val (.double (FP.l2d v1)), .second, .unset, .unset, .unset, .unset, .unset, .unset, .unset, .unset, .unset, .unset, .unset]) rfl ?_
    show Steps p.tables e below (s₁.setTop (mkF m 24 #[.val (.int p0), .val (.int p1), .val (.int p2), .val (.int p3), .val (.int p4), .val (.int p5), .val (.int nn), .val (.double (FP.l2d v0)), .second, .val (.double (FP.l2d v1)), .second, .unset, .unset, .unset, .unset, .unset, .unset, .unset, .unset, .unset, .unset, .unset] [])) _
    refine XS.dload X0.here hx rfl (hb hby at_24) rfl ?_
    show Steps p.tables e below (s₁.setTop (mkF m 26 #[.val (.int p0), .val (.int p1), .val (.int p2), .val (.int p3), .val (.int p4), .val (.int p5), .val (.int nn), .val (.double (FP.l2d v0)), .second, .val (.double (FP.l2d v1)), .second, .unset, .unset, .unset, .unset, .unset, .unset, .unset, .unset, .unset, .unset, .unset] [(.double (FP.l2d v1))])) _
    refine XS.iloadN X0.here hx rfl (hb hby at_26) rfl ?_
    show Steps p.tables e below (s₁.setTop (mkF m 27 #[.val (.int p0), .val (.int p1), .val (.int p2), .val (.int p3), .val (.int p4), .val (.int p5), .val (.int nn), .val (.double (FP.l2d v0)), .second, .val (.double (FP.l2d v1)), .second, .unset, .unset, .unset, .unset, .unset, .unset, .unset, .unset, .unset, .unset, .unset] [(.int p3), (.double (FP.l2d v1))])) _
    refine X0.ldcInt hx hown (mvT hZ (hw _ (List.mem_of_getElem? (i := 1) rfl))) (g := (mkF m 27 #[.val (.int p0), .val (.int p1), .val (.int p2), .val (.int p3), .val (.int p4), .val (.int p5), .val (.int nn), .val (.double (FP.l2d v0)), .second, .val (.double (FP.l2d v1)), .second, .unset, .unset, .unset, .unset, .unset, .unset, .unset, .unset, .unset, .unset, .unset] [(.int p3), (.double (FP.l2d v1))])) rfl (hb hby at_27) _ ?_
    show Steps p.tables e below (s₁.setTop (mkF m 29 #[.val (.int p0), .val (.int p1), .val (.int p2), .val (.int p3), .val (.int p4), .val (.int p5), .val (.int nn), .val (.double (FP.l2d v0)), .second, .val (.double (FP.l2d v1)), .second, .unset, .unset, .unset, .unset, .unset, .unset, .unset, .unset, .unset, .unset, .unset] [(.int (1048575 : Int32)), (.int p3), (.double (FP.l2d v1))])) _
    refine XS.iand X0.here hx rfl (hb hby at_29) rfl ?_
    show Steps p.tables e below (s₁.setTop (mkF m 30 #[.val (.int p0), .val (.int p1), .val (.int p2), .val (.int p3), .val (.int p4), .val (.int p5), .val (.int nn), .val (.double (FP.l2d v0)), .second, .val (.double (FP.l2d v1)), .second, .unset, .unset, .unset, .unset, .unset, .unset, .unset, .unset, .unset, .unset, .unset] [(.int (p3 &&& (1048575 : Int32))), (.double (FP.l2d v1))])) _
    refine XS.i2dS X0.here hx rfl (hb hby at_30) rfl (i2d_w _) ?_
    show Steps p.tables e below (s₁.setTop (mkF m 31 #[.val (.int p0), .val (.int p1), .val (.int p2), .val (.int p3), .val (.int p4), .val (.int p5), .val (.int nn), .val (.double (FP.l2d v0)), .second, .val (.double (FP.l2d v1)), .second, .unset, .unset, .unset, .unset, .unset, .unset, .unset, .unset, .unset, .unset, .unset] [(.double (FP.l2d (p3 &&& (1048575 : Int32)).toInt64)), (.double (FP.l2d v1))])) _
    refine XS.daddS X0.here hx rfl (hb hby at_31) rfl (nn_w (dadd_w (own_b R1) (own_bm p3))) (dadd_w (own_b R1) (own_bm p3)) ?_
    exact k)
  obtain ⟨v2, hv2⟩ : ∃ z : Int64, z = (v1 + (p3 &&& (1048575 : Int32)).toInt64) := ⟨_, rfl⟩
  rw [← hv2] at pre4
  have R2 := own_Rs (by decide) R1 hv2
  have pre5 : ∀ t, Steps p.tables e below (s₁.setTop (mkF m 43 #[.val (.int p0), .val (.int p1), .val (.int p2), .val (.int p3), .val (.int p4), .val (.int p5), .val (.int nn), .val (.double (FP.l2d v0)), .second, .val (.double (FP.l2d v1)), .second, .val (.double (FP.l2d v2)), .second, .unset, .unset, .unset, .unset, .unset, .unset, .unset, .unset, .unset] [(.double (FP.l2d (v2 + (p4 &&& (1048575 : Int32)).toInt64)))])) t → Steps p.tables e below (s₁.setTop (entryFrame m #[(.int p0), (.int p1), (.int p2), (.int p3), (.int p4), (.int p5)] maxLocals)) t := fun t k => pre4 t (by
    show Steps p.tables e below (s₁.setTop (mkF m 32 #[.val (.int p0), .val (.int p1), .val (.int p2), .val (.int p3), .val (.int p4), .val (.int p5), .val (.int nn), .val (.double (FP.l2d v0)), .second, .val (.double (FP.l2d v1)), .second, .unset, .unset, .unset, .unset, .unset, .unset, .unset, .unset, .unset, .unset, .unset] [(.double (FP.l2d v2))])) _
    refine XS.dstore X0.here hx rfl (hb hby at_32) rfl (l' := #[.val (.int p0), .val (.int p1), .val (.int p2), .val (.int p3), .val (.int p4), .val (.int p5), .val (.int nn), .val (.double (FP.l2d v0)), .second, .val (.double (FP.l2d v1)), .second, .val (.double (FP.l2d v2)), .second, .unset, .unset, .unset, .unset, .unset, .unset, .unset, .unset, .unset]) rfl ?_
    show Steps p.tables e below (s₁.setTop (mkF m 34 #[.val (.int p0), .val (.int p1), .val (.int p2), .val (.int p3), .val (.int p4), .val (.int p5), .val (.int nn), .val (.double (FP.l2d v0)), .second, .val (.double (FP.l2d v1)), .second, .val (.double (FP.l2d v2)), .second, .unset, .unset, .unset, .unset, .unset, .unset, .unset, .unset, .unset] [])) _
    refine XS.dload X0.here hx rfl (hb hby at_34) rfl ?_
    show Steps p.tables e below (s₁.setTop (mkF m 36 #[.val (.int p0), .val (.int p1), .val (.int p2), .val (.int p3), .val (.int p4), .val (.int p5), .val (.int nn), .val (.double (FP.l2d v0)), .second, .val (.double (FP.l2d v1)), .second, .val (.double (FP.l2d v2)), .second, .unset, .unset, .unset, .unset, .unset, .unset, .unset, .unset, .unset] [(.double (FP.l2d v2))])) _
    refine XS.iload X0.here hx rfl (hb hby at_36) rfl ?_
    show Steps p.tables e below (s₁.setTop (mkF m 38 #[.val (.int p0), .val (.int p1), .val (.int p2), .val (.int p3), .val (.int p4), .val (.int p5), .val (.int nn), .val (.double (FP.l2d v0)), .second, .val (.double (FP.l2d v1)), .second, .val (.double (FP.l2d v2)), .second, .unset, .unset, .unset, .unset, .unset, .unset, .unset, .unset, .unset] [(.int p4), (.double (FP.l2d v2))])) _
    refine X0.ldcInt hx hown (mvT hZ (hw _ (List.mem_of_getElem? (i := 1) rfl))) (g := (mkF m 38 #[.val (.int p0), .val (.int p1), .val (.int p2), .val (.int p3), .val (.int p4), .val (.int p5), .val (.int nn), .val (.double (FP.l2d v0)), .second, .val (.double (FP.l2d v1)), .second, .val (.double (FP.l2d v2)), .second, .unset, .unset, .unset, .unset, .unset, .unset, .unset, .unset, .unset] [(.int p4), (.double (FP.l2d v2))])) rfl (hb hby at_38) _ ?_
    show Steps p.tables e below (s₁.setTop (mkF m 40 #[.val (.int p0), .val (.int p1), .val (.int p2), .val (.int p3), .val (.int p4), .val (.int p5), .val (.int nn), .val (.double (FP.l2d v0)), .second, .val (.double (FP.l2d v1)), .second, .val (.double (FP.l2d v2)), .second, .unset, .unset, .unset, .unset, .unset, .unset, .unset, .unset, .unset] [(.int (1048575 : Int32)), (.int p4), (.double (FP.l2d v2))])) _
    refine XS.iand X0.here hx rfl (hb hby at_40) rfl ?_
    show Steps p.tables e below (s₁.setTop (mkF m 41 #[.val (.int p0), .val (.int p1), .val (.int p2), .val (.int p3), .val (.int p4), .val (.int p5), .val (.int nn), .val (.double (FP.l2d v0)), .second, .val (.double (FP.l2d v1)), .second, .val (.double (FP.l2d v2)), .second, .unset, .unset, .unset, .unset, .unset, .unset, .unset, .unset, .unset] [(.int (p4 &&& (1048575 : Int32))), (.double (FP.l2d v2))])) _
    refine XS.i2dS X0.here hx rfl (hb hby at_41) rfl (i2d_w _) ?_
    show Steps p.tables e below (s₁.setTop (mkF m 42 #[.val (.int p0), .val (.int p1), .val (.int p2), .val (.int p3), .val (.int p4), .val (.int p5), .val (.int nn), .val (.double (FP.l2d v0)), .second, .val (.double (FP.l2d v1)), .second, .val (.double (FP.l2d v2)), .second, .unset, .unset, .unset, .unset, .unset, .unset, .unset, .unset, .unset] [(.double (FP.l2d (p4 &&& (1048575 : Int32)).toInt64)), (.double (FP.l2d v2))])) _
    refine XS.daddS X0.here hx rfl (hb hby at_42) rfl (nn_w (dadd_w (own_b R2) (own_bm p4))) (dadd_w (own_b R2) (own_bm p4)) ?_
    exact k)
  obtain ⟨v3, hv3⟩ : ∃ z : Int64, z = (v2 + (p4 &&& (1048575 : Int32)).toInt64) := ⟨_, rfl⟩
  rw [← hv3] at pre5
  have R3 := own_Rs (by decide) R2 hv3
  have pre6 : ∀ t, Steps p.tables e below (s₁.setTop (mkF m 54 #[.val (.int p0), .val (.int p1), .val (.int p2), .val (.int p3), .val (.int p4), .val (.int p5), .val (.int nn), .val (.double (FP.l2d v0)), .second, .val (.double (FP.l2d v1)), .second, .val (.double (FP.l2d v2)), .second, .val (.double (FP.l2d v3)), .second, .unset, .unset, .unset, .unset, .unset, .unset, .unset] [(.double (FP.l2d (v3 + (p5 &&& (1048575 : Int32)).toInt64)))])) t → Steps p.tables e below (s₁.setTop (entryFrame m #[(.int p0), (.int p1), (.int p2), (.int p3), (.int p4), (.int p5)] maxLocals)) t := fun t k => pre5 t (by
    show Steps p.tables e below (s₁.setTop (mkF m 43 #[.val (.int p0), .val (.int p1), .val (.int p2), .val (.int p3), .val (.int p4), .val (.int p5), .val (.int nn), .val (.double (FP.l2d v0)), .second, .val (.double (FP.l2d v1)), .second, .val (.double (FP.l2d v2)), .second, .unset, .unset, .unset, .unset, .unset, .unset, .unset, .unset, .unset] [(.double (FP.l2d v3))])) _
    refine XS.dstore X0.here hx rfl (hb hby at_43) rfl (l' := #[.val (.int p0), .val (.int p1), .val (.int p2), .val (.int p3), .val (.int p4), .val (.int p5), .val (.int nn), .val (.double (FP.l2d v0)), .second, .val (.double (FP.l2d v1)), .second, .val (.double (FP.l2d v2)), .second, .val (.double (FP.l2d v3)), .second, .unset, .unset, .unset, .unset, .unset, .unset, .unset]) rfl ?_
    show Steps p.tables e below (s₁.setTop (mkF m 45 #[.val (.int p0), .val (.int p1), .val (.int p2), .val (.int p3), .val (.int p4), .val (.int p5), .val (.int nn), .val (.double (FP.l2d v0)), .second, .val (.double (FP.l2d v1)), .second, .val (.double (FP.l2d v2)), .second, .val (.double (FP.l2d v3)), .second, .unset, .unset, .unset, .unset, .unset, .unset, .unset] [])) _
    refine XS.dload X0.here hx rfl (hb hby at_45) rfl ?_
    show Steps p.tables e below (s₁.setTop (mkF m 47 #[.val (.int p0), .val (.int p1), .val (.int p2), .val (.int p3), .val (.int p4), .val (.int p5), .val (.int nn), .val (.double (FP.l2d v0)), .second, .val (.double (FP.l2d v1)), .second, .val (.double (FP.l2d v2)), .second, .val (.double (FP.l2d v3)), .second, .unset, .unset, .unset, .unset, .unset, .unset, .unset] [(.double (FP.l2d v3))])) _
    refine XS.iload X0.here hx rfl (hb hby at_47) rfl ?_
    show Steps p.tables e below (s₁.setTop (mkF m 49 #[.val (.int p0), .val (.int p1), .val (.int p2), .val (.int p3), .val (.int p4), .val (.int p5), .val (.int nn), .val (.double (FP.l2d v0)), .second, .val (.double (FP.l2d v1)), .second, .val (.double (FP.l2d v2)), .second, .val (.double (FP.l2d v3)), .second, .unset, .unset, .unset, .unset, .unset, .unset, .unset] [(.int p5), (.double (FP.l2d v3))])) _
    refine X0.ldcInt hx hown (mvT hZ (hw _ (List.mem_of_getElem? (i := 1) rfl))) (g := (mkF m 49 #[.val (.int p0), .val (.int p1), .val (.int p2), .val (.int p3), .val (.int p4), .val (.int p5), .val (.int nn), .val (.double (FP.l2d v0)), .second, .val (.double (FP.l2d v1)), .second, .val (.double (FP.l2d v2)), .second, .val (.double (FP.l2d v3)), .second, .unset, .unset, .unset, .unset, .unset, .unset, .unset] [(.int p5), (.double (FP.l2d v3))])) rfl (hb hby at_49) _ ?_
    show Steps p.tables e below (s₁.setTop (mkF m 51 #[.val (.int p0), .val (.int p1), .val (.int p2), .val (.int p3), .val (.int p4), .val (.int p5), .val (.int nn), .val (.double (FP.l2d v0)), .second, .val (.double (FP.l2d v1)), .second, .val (.double (FP.l2d v2)), .second, .val (.double (FP.l2d v3)), .second, .unset, .unset, .unset, .unset, .unset, .unset, .unset] [(.int (1048575 : Int32)), (.int p5), (.double (FP.l2d v3))])) _
    refine XS.iand X0.here hx rfl (hb hby at_51) rfl ?_
    show Steps p.tables e below (s₁.setTop (mkF m 52 #[.val (.int p0), .val (.int p1), .val (.int p2), .val (.int p3), .val (.int p4), .val (.int p5), .val (.int nn), .val (.double (FP.l2d v0)), .second, .val (.double (FP.l2d v1)), .second, .val (.double (FP.l2d v2)), .second, .val (.double (FP.l2d v3)), .second, .unset, .unset, .unset, .unset, .unset, .unset, .unset] [(.int (p5 &&& (1048575 : Int32))), (.double (FP.l2d v3))])) _
    refine XS.i2dS X0.here hx rfl (hb hby at_52) rfl (i2d_w _) ?_
    show Steps p.tables e below (s₁.setTop (mkF m 53 #[.val (.int p0), .val (.int p1), .val (.int p2), .val (.int p3), .val (.int p4), .val (.int p5), .val (.int nn), .val (.double (FP.l2d v0)), .second, .val (.double (FP.l2d v1)), .second, .val (.double (FP.l2d v2)), .second, .val (.double (FP.l2d v3)), .second, .unset, .unset, .unset, .unset, .unset, .unset, .unset] [(.double (FP.l2d (p5 &&& (1048575 : Int32)).toInt64)), (.double (FP.l2d v3))])) _
    refine XS.daddS X0.here hx rfl (hb hby at_53) rfl (nn_w (dadd_w (own_b R3) (own_bm p5))) (dadd_w (own_b R3) (own_bm p5)) ?_
    exact k)
  obtain ⟨v4, hv4⟩ : ∃ z : Int64, z = (v3 + (p5 &&& (1048575 : Int32)).toInt64) := ⟨_, rfl⟩
  rw [← hv4] at pre6
  have R4 := own_Rs (by decide) R3 hv4
  have pre7 : ∀ t, Steps p.tables e below (s₁.setTop (mkF m 56 #[.val (.int p0), .val (.int p1), .val (.int p2), .val (.int p3), .val (.int p4), .val (.int p5), .val (.int nn), .val (.double (FP.l2d v0)), .second, .val (.double (FP.l2d v1)), .second, .val (.double (FP.l2d v2)), .second, .val (.double (FP.l2d v3)), .second, .val (.double (FP.l2d v4)), .second, .unset, .unset, .unset, .unset, .unset] [])) t → Steps p.tables e below (s₁.setTop (entryFrame m #[(.int p0), (.int p1), (.int p2), (.int p3), (.int p4), (.int p5)] maxLocals)) t := fun t k => pre6 t (by
    show Steps p.tables e below (s₁.setTop (mkF m 54 #[.val (.int p0), .val (.int p1), .val (.int p2), .val (.int p3), .val (.int p4), .val (.int p5), .val (.int nn), .val (.double (FP.l2d v0)), .second, .val (.double (FP.l2d v1)), .second, .val (.double (FP.l2d v2)), .second, .val (.double (FP.l2d v3)), .second, .unset, .unset, .unset, .unset, .unset, .unset, .unset] [(.double (FP.l2d v4))])) _
    refine XS.dstore X0.here hx rfl (hb hby at_54) rfl (l' := #[.val (.int p0), .val (.int p1), .val (.int p2), .val (.int p3), .val (.int p4), .val (.int p5), .val (.int nn), .val (.double (FP.l2d v0)), .second, .val (.double (FP.l2d v1)), .second, .val (.double (FP.l2d v2)), .second, .val (.double (FP.l2d v3)), .second, .val (.double (FP.l2d v4)), .second, .unset, .unset, .unset, .unset, .unset]) rfl ?_
    exact k)
  rcases own_n5 hnn with rfl | rfl | rfl | rfl | rfl
  · obtain ⟨T8, h8, k8, X8, e8, E8, A8, st8⟩ := newP X0 hx hZ (hw _ (List.mem_of_getElem? (i := 2) rfl)) e0 (g := (mkF m 58 #[.val (.int p0), .val (.int p1), .val (.int p2), .val (.int p3), .val (.int p4), .val (.int p5), .val (.int (1 : Int32)), .val (.double (FP.l2d v0)), .second, .val (.double (FP.l2d v1)), .second, .val (.double (FP.l2d v2)), .second, .val (.double (FP.l2d v3)), .second, .val (.double (FP.l2d v4)), .second, .unset, .unset, .unset, .unset, .unset] [(.int (1 : Int32))])) rfl (hb hby at_58) rfl (by decide) (cap := 1) (by decide) (by decide) (by decide) (by decide)
    obtain ⟨b8, g8⟩ : ∃ z, z = h0.size := ⟨_, rfl⟩
    rw [← g8] at A8 st8
    have g_b8 : n0 ≤ b8 := Nat.le_trans Z0 (Nat.le_of_eq g8.symm)
    have sz_b8 : h0.size ≤ b8 := Nat.le_trans (Keep.refl h0 []).1 (Nat.le_of_eq g8.symm)
    have V_b8 : Arv Z h8 b8 k8 .double (1 : Int32) [(.double (FP.l2d 0))] (.double (FP.l2d 0)) := (Arv.newD A8 (by decide)).pad (pad_rep [] (.double (FP.l2d 0)) 1)
    obtain ⟨cl9, Ar9, q9, S9, N9', H9, G9⟩ := id V_b8
    have hin9 : ¬ ((0 : Int32) < 0 ∨ cl9.slots.size ≤ ((0 : Int32)).toNatClampNeg) := inb_of S9 ⟨by decide, by decide⟩
    obtain ⟨T10, h10, X10, e10, W10, st10⟩ := stD X8 hx hZ e8 Ar9 (j := (0 : Int32)) hin9 (g := (mkF m 67 #[.val (.int p0), .val (.int p1), .val (.int p2), .val (.int p3), .val (.int p4), .val (.int p5), .val (.int (1 : Int32)), .val (.double (FP.l2d v0)), .second, .val (.double (FP.l2d v1)), .second, .val (.double (FP.l2d v2)), .second, .val (.double (FP.l2d v3)), .second, .val (.double (FP.l2d v4)), .second, .val (.ref b8), .unset, .unset, .unset, .unset] [(.double (FP.l2d v0)), (.int (0 : Int32)), (.ref b8)])) rfl rfl (hb hby at_67)
    have Vs10 : Arv Z h10 b8 k8 .double (1 : Int32) [(.double (FP.l2d v0))] (.double (FP.l2d 0)) := Arv.set Ar9 q9 S9 N9' H9 G9 rfl W10 0 rfl (Nat.le_of_ble_eq_true rfl)
    have N10 := Fr.snoc X10 N0 g_b8
    have Zz_12 : n0 ≤ h10.size := (Nat.le_trans (Nat.le_trans Z0 E8.1) (Keep.of_wr W10).1)
    obtain ⟨_, _, ⟨T11, L11, k11, n11⟩, -, X11, ⟨Lc11, hQ11, l11, y11, z11⟩, st11⟩ := Jvm.LawKit.callS X10 hx (y := (⟨"com/example/gyre/bench/Handoff", "median", "([D)D"⟩ : MethodName)) hown (mvT hZ (hw _ (List.mem_of_getElem? (i := 3) rfl))) (mvT hZ (hw _ (List.mem_of_getElem? (i := 4) rfl))) (mvT hZ (hw _ (List.mem_of_getElem? (i := 5) rfl))) (mvT hZ (hw _ (List.mem_of_getElem? (i := 6) rfl))) (by decide) (backOf (W := 0) (rm1_1 l Z aw hw [] b8 k8 (FP.l2d v0) h10 n0 Zz_12 Vs10) hZ (hw _ (List.mem_of_getElem? (i := 6) rfl)) (hw _ (List.mem_of_getElem? (i := 5) rfl)) (by decide) (by decide)) (g := (mkF m 118 #[.val (.int p0), .val (.int p1), .val (.int p2), .val (.int p3), .val (.int p4), .val (.int p5), .val (.int (1 : Int32)), .val (.double (FP.l2d v0)), .second, .val (.double (FP.l2d v1)), .second, .val (.double (FP.l2d v2)), .second, .val (.double (FP.l2d v3)), .second, .val (.double (FP.l2d v4)), .second, .val (.ref b8), .unset, .unset, .unset, .unset] [(.ref b8)])) rfl (by rw [hml]; rfl) (argsL := [(.ref b8)]) (rest := []) (lenOf pd_rm0_0 rfl) rfl (by show 2 * 0 + _ ≤ _; exact Nat.le_of_eq rfl) (hb hby at_118) (fun _ _ => ⟨rfl, e10, (by decide : 1 + 0 ≤ _), (by decide : 1 + 0 ≤ _)⟩)
    dsimp only [Pt.U, Pt.locs, Pt.cells, Pt.slots] at X11 l11 y11 z11 st11 hQ11
    subst l11 y11 z11
    obtain ⟨rfl, N11q, e11q⟩ := hQ11
    have N11 := Fr.app N10 N11q
    obtain ⟨fs, hr, hrun, hended, hW, hsame⟩ := X11.leave (v := some (.int (1 : Int32))) (fun h => by rw [Bd.returns] at h; cases h)
    refine ⟨_, _, pre7 _ ?_, hrun, hended, _, _, rfl, ?_, ⟨_, rfl⟩, hW, hsame.mono (by decide) (by decide)⟩
    · show Steps p.tables e below (s₁.setTop (mkF m 56 #[.val (.int p0), .val (.int p1), .val (.int p2), .val (.int p3), .val (.int p4), .val (.int p5), .val (.int (1 : Int32)), .val (.double (FP.l2d v0)), .second, .val (.double (FP.l2d v1)), .second, .val (.double (FP.l2d v2)), .second, .val (.double (FP.l2d v3)), .second, .val (.double (FP.l2d v4)), .second, .unset, .unset, .unset, .unset, .unset] [])) _
      refine XS.iload X0.here hx rfl (hb hby at_56) rfl ?_
      show Steps p.tables e below (s₁.setTop (mkF m 58 #[.val (.int p0), .val (.int p1), .val (.int p2), .val (.int p3), .val (.int p4), .val (.int p5), .val (.int (1 : Int32)), .val (.double (FP.l2d v0)), .second, .val (.double (FP.l2d v1)), .second, .val (.double (FP.l2d v2)), .second, .val (.double (FP.l2d v3)), .second, .val (.double (FP.l2d v4)), .second, .unset, .unset, .unset, .unset, .unset] [(.int (1 : Int32))])) _
      refine st8 _ ?_
      show Steps p.tables e below (T8.setTop (mkF m 60 #[.val (.int p0), .val (.int p1), .val (.int p2), .val (.int p3), .val (.int p4), .val (.int p5), .val (.int (1 : Int32)), .val (.double (FP.l2d v0)), .second, .val (.double (FP.l2d v1)), .second, .val (.double (FP.l2d v2)), .second, .val (.double (FP.l2d v3)), .second, .val (.double (FP.l2d v4)), .second, .unset, .unset, .unset, .unset, .unset] [(.ref b8)])) _
      refine XS.astore X8.here hx rfl (hb hby at_60) rfl rfl (l' := #[.val (.int p0), .val (.int p1), .val (.int p2), .val (.int p3), .val (.int p4), .val (.int p5), .val (.int (1 : Int32)), .val (.double (FP.l2d v0)), .second, .val (.double (FP.l2d v1)), .second, .val (.double (FP.l2d v2)), .second, .val (.double (FP.l2d v3)), .second, .val (.double (FP.l2d v4)), .second, .val (.ref b8), .unset, .unset, .unset, .unset]) rfl ?_
      show Steps p.tables e below (T8.setTop (mkF m 62 #[.val (.int p0), .val (.int p1), .val (.int p2), .val (.int p3), .val (.int p4), .val (.int p5), .val (.int (1 : Int32)), .val (.double (FP.l2d v0)), .second, .val (.double (FP.l2d v1)), .second, .val (.double (FP.l2d v2)), .second, .val (.double (FP.l2d v3)), .second, .val (.double (FP.l2d v4)), .second, .val (.ref b8), .unset, .unset, .unset, .unset] [])) _
      refine XS.aload X8.here hx rfl (hb hby at_62) rfl rfl ?_
      show Steps p.tables e below (T8.setTop (mkF m 64 #[.val (.int p0), .val (.int p1), .val (.int p2), .val (.int p3), .val (.int p4), .val (.int p5), .val (.int (1 : Int32)), .val (.double (FP.l2d v0)), .second, .val (.double (FP.l2d v1)), .second, .val (.double (FP.l2d v2)), .second, .val (.double (FP.l2d v3)), .second, .val (.double (FP.l2d v4)), .second, .val (.ref b8), .unset, .unset, .unset, .unset] [(.ref b8)])) _
      refine XS.iconst X8.here hx rfl (hb hby at_64) ?_
      show Steps p.tables e below (T8.setTop (mkF m 65 #[.val (.int p0), .val (.int p1), .val (.int p2), .val (.int p3), .val (.int p4), .val (.int p5), .val (.int (1 : Int32)), .val (.double (FP.l2d v0)), .second, .val (.double (FP.l2d v1)), .second, .val (.double (FP.l2d v2)), .second, .val (.double (FP.l2d v3)), .second, .val (.double (FP.l2d v4)), .second, .val (.ref b8), .unset, .unset, .unset, .unset] [(.int (0 : Int32)), (.ref b8)])) _
      refine XS.dload X8.here hx rfl (hb hby at_65) rfl ?_
      show Steps p.tables e below (T8.setTop (mkF m 67 #[.val (.int p0), .val (.int p1), .val (.int p2), .val (.int p3), .val (.int p4), .val (.int p5), .val (.int (1 : Int32)), .val (.double (FP.l2d v0)), .second, .val (.double (FP.l2d v1)), .second, .val (.double (FP.l2d v2)), .second, .val (.double (FP.l2d v3)), .second, .val (.double (FP.l2d v4)), .second, .val (.ref b8), .unset, .unset, .unset, .unset] [(.double (FP.l2d v0)), (.int (0 : Int32)), (.ref b8)])) _
      refine st10 _ ?_
      show Steps p.tables e below (T10.setTop (mkF m 68 #[.val (.int p0), .val (.int p1), .val (.int p2), .val (.int p3), .val (.int p4), .val (.int p5), .val (.int (1 : Int32)), .val (.double (FP.l2d v0)), .second, .val (.double (FP.l2d v1)), .second, .val (.double (FP.l2d v2)), .second, .val (.double (FP.l2d v3)), .second, .val (.double (FP.l2d v4)), .second, .val (.ref b8), .unset, .unset, .unset, .unset] [])) _
      refine XS.iload X10.here hx rfl (hb hby at_68) rfl ?_
      show Steps p.tables e below (T10.setTop (mkF m 70 #[.val (.int p0), .val (.int p1), .val (.int p2), .val (.int p3), .val (.int p4), .val (.int p5), .val (.int (1 : Int32)), .val (.double (FP.l2d v0)), .second, .val (.double (FP.l2d v1)), .second, .val (.double (FP.l2d v2)), .second, .val (.double (FP.l2d v3)), .second, .val (.double (FP.l2d v4)), .second, .val (.ref b8), .unset, .unset, .unset, .unset] [(.int (1 : Int32))])) _
      refine XS.iconst X10.here hx rfl (hb hby at_70) ?_
      show Steps p.tables e below (T10.setTop (mkF m 71 #[.val (.int p0), .val (.int p1), .val (.int p2), .val (.int p3), .val (.int p4), .val (.int p5), .val (.int (1 : Int32)), .val (.double (FP.l2d v0)), .second, .val (.double (FP.l2d v1)), .second, .val (.double (FP.l2d v2)), .second, .val (.double (FP.l2d v3)), .second, .val (.double (FP.l2d v4)), .second, .val (.ref b8), .unset, .unset, .unset, .unset] [(.int (1 : Int32)), (.int (1 : Int32))])) _
      refine XS.icmpYes X10.here hx rfl (pc0 := 71) (pc' := 80) rfl (hb hby at_71) rfl (flt ((by decide) : ¬ ((1 : Int32) < (1 : Int32)))).2.2.2 (by decide) (by decide) ?_
      show Steps p.tables e below (T10.setTop (mkF m 80 #[.val (.int p0), .val (.int p1), .val (.int p2), .val (.int p3), .val (.int p4), .val (.int p5), .val (.int (1 : Int32)), .val (.double (FP.l2d v0)), .second, .val (.double (FP.l2d v1)), .second, .val (.double (FP.l2d v2)), .second, .val (.double (FP.l2d v3)), .second, .val (.double (FP.l2d v4)), .second, .val (.ref b8), .unset, .unset, .unset, .unset] [])) _
      refine XS.iload X10.here hx rfl (hb hby at_80) rfl ?_
      show Steps p.tables e below (T10.setTop (mkF m 82 #[.val (.int p0), .val (.int p1), .val (.int p2), .val (.int p3), .val (.int p4), .val (.int p5), .val (.int (1 : Int32)), .val (.double (FP.l2d v0)), .second, .val (.double (FP.l2d v1)), .second, .val (.double (FP.l2d v2)), .second, .val (.double (FP.l2d v3)), .second, .val (.double (FP.l2d v4)), .second, .val (.ref b8), .unset, .unset, .unset, .unset] [(.int (1 : Int32))])) _
      refine XS.iconst X10.here hx rfl (hb hby at_82) ?_
      show Steps p.tables e below (T10.setTop (mkF m 83 #[.val (.int p0), .val (.int p1), .val (.int p2), .val (.int p3), .val (.int p4), .val (.int p5), .val (.int (1 : Int32)), .val (.double (FP.l2d v0)), .second, .val (.double (FP.l2d v1)), .second, .val (.double (FP.l2d v2)), .second, .val (.double (FP.l2d v3)), .second, .val (.double (FP.l2d v4)), .second, .val (.ref b8), .unset, .unset, .unset, .unset] [(.int (2 : Int32)), (.int (1 : Int32))])) _
      refine XS.icmpYes X10.here hx rfl (pc0 := 83) (pc' := 92) rfl (hb hby at_83) rfl (flt ((by decide) : ¬ ((2 : Int32) < (1 : Int32)))).2.2.2 (by decide) (by decide) ?_
      show Steps p.tables e below (T10.setTop (mkF m 92 #[.val (.int p0), .val (.int p1), .val (.int p2), .val (.int p3), .val (.int p4), .val (.int p5), .val (.int (1 : Int32)), .val (.double (FP.l2d v0)), .second, .val (.double (FP.l2d v1)), .second, .val (.double (FP.l2d v2)), .second, .val (.double (FP.l2d v3)), .second, .val (.double (FP.l2d v4)), .second, .val (.ref b8), .unset, .unset, .unset, .unset] [])) _
      refine XS.iload X10.here hx rfl (hb hby at_92) rfl ?_
      show Steps p.tables e below (T10.setTop (mkF m 94 #[.val (.int p0), .val (.int p1), .val (.int p2), .val (.int p3), .val (.int p4), .val (.int p5), .val (.int (1 : Int32)), .val (.double (FP.l2d v0)), .second, .val (.double (FP.l2d v1)), .second, .val (.double (FP.l2d v2)), .second, .val (.double (FP.l2d v3)), .second, .val (.double (FP.l2d v4)), .second, .val (.ref b8), .unset, .unset, .unset, .unset] [(.int (1 : Int32))])) _
      refine XS.iconst X10.here hx rfl (hb hby at_94) ?_
      show Steps p.tables e below (T10.setTop (mkF m 95 #[.val (.int p0), .val (.int p1), .val (.int p2), .val (.int p3), .val (.int p4), .val (.int p5), .val (.int (1 : Int32)), .val (.double (FP.l2d v0)), .second, .val (.double (FP.l2d v1)), .second, .val (.double (FP.l2d v2)), .second, .val (.double (FP.l2d v3)), .second, .val (.double (FP.l2d v4)), .second, .val (.ref b8), .unset, .unset, .unset, .unset] [(.int (3 : Int32)), (.int (1 : Int32))])) _
      refine XS.icmpYes X10.here hx rfl (pc0 := 95) (pc' := 104) rfl (hb hby at_95) rfl (flt ((by decide) : ¬ ((3 : Int32) < (1 : Int32)))).2.2.2 (by decide) (by decide) ?_
      show Steps p.tables e below (T10.setTop (mkF m 104 #[.val (.int p0), .val (.int p1), .val (.int p2), .val (.int p3), .val (.int p4), .val (.int p5), .val (.int (1 : Int32)), .val (.double (FP.l2d v0)), .second, .val (.double (FP.l2d v1)), .second, .val (.double (FP.l2d v2)), .second, .val (.double (FP.l2d v3)), .second, .val (.double (FP.l2d v4)), .second, .val (.ref b8), .unset, .unset, .unset, .unset] [])) _
      refine XS.iload X10.here hx rfl (hb hby at_104) rfl ?_
      show Steps p.tables e below (T10.setTop (mkF m 106 #[.val (.int p0), .val (.int p1), .val (.int p2), .val (.int p3), .val (.int p4), .val (.int p5), .val (.int (1 : Int32)), .val (.double (FP.l2d v0)), .second, .val (.double (FP.l2d v1)), .second, .val (.double (FP.l2d v2)), .second, .val (.double (FP.l2d v3)), .second, .val (.double (FP.l2d v4)), .second, .val (.ref b8), .unset, .unset, .unset, .unset] [(.int (1 : Int32))])) _
      refine XS.iconst X10.here hx rfl (hb hby at_106) ?_
      show Steps p.tables e below (T10.setTop (mkF m 107 #[.val (.int p0), .val (.int p1), .val (.int p2), .val (.int p3), .val (.int p4), .val (.int p5), .val (.int (1 : Int32)), .val (.double (FP.l2d v0)), .second, .val (.double (FP.l2d v1)), .second, .val (.double (FP.l2d v2)), .second, .val (.double (FP.l2d v3)), .second, .val (.double (FP.l2d v4)), .second, .val (.ref b8), .unset, .unset, .unset, .unset] [(.int (4 : Int32)), (.int (1 : Int32))])) _
      refine XS.icmpYes X10.here hx rfl (pc0 := 107) (pc' := 116) rfl (hb hby at_107) rfl (flt ((by decide) : ¬ ((4 : Int32) < (1 : Int32)))).2.2.2 (by decide) (by decide) ?_
      show Steps p.tables e below (T10.setTop (mkF m 116 #[.val (.int p0), .val (.int p1), .val (.int p2), .val (.int p3), .val (.int p4), .val (.int p5), .val (.int (1 : Int32)), .val (.double (FP.l2d v0)), .second, .val (.double (FP.l2d v1)), .second, .val (.double (FP.l2d v2)), .second, .val (.double (FP.l2d v3)), .second, .val (.double (FP.l2d v4)), .second, .val (.ref b8), .unset, .unset, .unset, .unset] [])) _
      refine XS.aload X10.here hx rfl (hb hby at_116) rfl rfl ?_
      show Steps p.tables e below (T10.setTop (mkF m 118 #[.val (.int p0), .val (.int p1), .val (.int p2), .val (.int p3), .val (.int p4), .val (.int p5), .val (.int (1 : Int32)), .val (.double (FP.l2d v0)), .second, .val (.double (FP.l2d v1)), .second, .val (.double (FP.l2d v2)), .second, .val (.double (FP.l2d v3)), .second, .val (.double (FP.l2d v4)), .second, .val (.ref b8), .unset, .unset, .unset, .unset] [(.ref b8)])) _
      refine st11 _ ?_
      show Steps p.tables e below (T11.setTop (mkF m 121 #[.val (.int p0), .val (.int p1), .val (.int p2), .val (.int p3), .val (.int p4), .val (.int p5), .val (.int (1 : Int32)), .val (.double (FP.l2d v0)), .second, .val (.double (FP.l2d v1)), .second, .val (.double (FP.l2d v2)), .second, .val (.double (FP.l2d v3)), .second, .val (.double (FP.l2d v4)), .second, .val (.ref b8), .unset, .unset, .unset, .unset] [(.double (FP.l2d v0))])) _
      refine XS.dstore X11.here hx rfl (hb hby at_121) rfl (l' := #[.val (.int p0), .val (.int p1), .val (.int p2), .val (.int p3), .val (.int p4), .val (.int p5), .val (.int (1 : Int32)), .val (.double (FP.l2d v0)), .second, .val (.double (FP.l2d v1)), .second, .val (.double (FP.l2d v2)), .second, .val (.double (FP.l2d v3)), .second, .val (.double (FP.l2d v4)), .second, .val (.ref b8), .val (.double (FP.l2d v0)), .second, .unset, .unset]) rfl ?_
      show Steps p.tables e below (T11.setTop (mkF m 123 #[.val (.int p0), .val (.int p1), .val (.int p2), .val (.int p3), .val (.int p4), .val (.int p5), .val (.int (1 : Int32)), .val (.double (FP.l2d v0)), .second, .val (.double (FP.l2d v1)), .second, .val (.double (FP.l2d v2)), .second, .val (.double (FP.l2d v3)), .second, .val (.double (FP.l2d v4)), .second, .val (.ref b8), .val (.double (FP.l2d v0)), .second, .unset, .unset] [])) _
      refine XS.iload X11.here hx rfl (hb hby at_123) rfl ?_
      show Steps p.tables e below (T11.setTop (mkF m 125 #[.val (.int p0), .val (.int p1), .val (.int p2), .val (.int p3), .val (.int p4), .val (.int p5), .val (.int (1 : Int32)), .val (.double (FP.l2d v0)), .second, .val (.double (FP.l2d v1)), .second, .val (.double (FP.l2d v2)), .second, .val (.double (FP.l2d v3)), .second, .val (.double (FP.l2d v4)), .second, .val (.ref b8), .val (.double (FP.l2d v0)), .second, .unset, .unset] [(.int (1 : Int32))])) _
      refine XS.iconst X11.here hx rfl (hb hby at_125) ?_
      show Steps p.tables e below (T11.setTop (mkF m 126 #[.val (.int p0), .val (.int p1), .val (.int p2), .val (.int p3), .val (.int p4), .val (.int p5), .val (.int (1 : Int32)), .val (.double (FP.l2d v0)), .second, .val (.double (FP.l2d v1)), .second, .val (.double (FP.l2d v2)), .second, .val (.double (FP.l2d v3)), .second, .val (.double (FP.l2d v4)), .second, .val (.ref b8), .val (.double (FP.l2d v0)), .second, .unset, .unset] [(.int (1 : Int32)), (.int (1 : Int32))])) _
      refine XS.icmpNo X11.here hx rfl (hb hby at_126) rfl (teq (rfl : (1 : Int32) = (1 : Int32))).2 ?_
      show Steps p.tables e below (T11.setTop (mkF m 129 #[.val (.int p0), .val (.int p1), .val (.int p2), .val (.int p3), .val (.int p4), .val (.int p5), .val (.int (1 : Int32)), .val (.double (FP.l2d v0)), .second, .val (.double (FP.l2d v1)), .second, .val (.double (FP.l2d v2)), .second, .val (.double (FP.l2d v3)), .second, .val (.double (FP.l2d v4)), .second, .val (.ref b8), .val (.double (FP.l2d v0)), .second, .unset, .unset] [])) _
      refine XS.dload X11.here hx rfl (hb hby at_129) rfl ?_
      show Steps p.tables e below (T11.setTop (mkF m 131 #[.val (.int p0), .val (.int p1), .val (.int p2), .val (.int p3), .val (.int p4), .val (.int p5), .val (.int (1 : Int32)), .val (.double (FP.l2d v0)), .second, .val (.double (FP.l2d v1)), .second, .val (.double (FP.l2d v2)), .second, .val (.double (FP.l2d v3)), .second, .val (.double (FP.l2d v4)), .second, .val (.ref b8), .val (.double (FP.l2d v0)), .second, .unset, .unset] [(.double (FP.l2d v0))])) _
      refine XS.dstore X11.here hx rfl (hb hby at_131) rfl (l' := #[.val (.int p0), .val (.int p1), .val (.int p2), .val (.int p3), .val (.int p4), .val (.int p5), .val (.int (1 : Int32)), .val (.double (FP.l2d v0)), .second, .val (.double (FP.l2d v1)), .second, .val (.double (FP.l2d v2)), .second, .val (.double (FP.l2d v3)), .second, .val (.double (FP.l2d v4)), .second, .val (.ref b8), .val (.double (FP.l2d v0)), .second, .val (.double (FP.l2d v0)), .second]) rfl ?_
      show Steps p.tables e below (T11.setTop (mkF m 133 #[.val (.int p0), .val (.int p1), .val (.int p2), .val (.int p3), .val (.int p4), .val (.int p5), .val (.int (1 : Int32)), .val (.double (FP.l2d v0)), .second, .val (.double (FP.l2d v1)), .second, .val (.double (FP.l2d v2)), .second, .val (.double (FP.l2d v3)), .second, .val (.double (FP.l2d v4)), .second, .val (.ref b8), .val (.double (FP.l2d v0)), .second, .val (.double (FP.l2d v0)), .second] [])) _
      refine XS.goto X11.here hx rfl (pc0 := 133) (pc' := 193) rfl (hb hby at_133) (by decide) (by decide) ?_
      show Steps p.tables e below (T11.setTop (mkF m 193 #[.val (.int p0), .val (.int p1), .val (.int p2), .val (.int p3), .val (.int p4), .val (.int p5), .val (.int (1 : Int32)), .val (.double (FP.l2d v0)), .second, .val (.double (FP.l2d v1)), .second, .val (.double (FP.l2d v2)), .second, .val (.double (FP.l2d v3)), .second, .val (.double (FP.l2d v4)), .second, .val (.ref b8), .val (.double (FP.l2d v0)), .second, .val (.double (FP.l2d v0)), .second] [])) _
      refine XS.dload X11.here hx rfl (hb hby at_193) rfl ?_
      show Steps p.tables e below (T11.setTop (mkF m 195 #[.val (.int p0), .val (.int p1), .val (.int p2), .val (.int p3), .val (.int p4), .val (.int p5), .val (.int (1 : Int32)), .val (.double (FP.l2d v0)), .second, .val (.double (FP.l2d v1)), .second, .val (.double (FP.l2d v2)), .second, .val (.double (FP.l2d v3)), .second, .val (.double (FP.l2d v4)), .second, .val (.ref b8), .val (.double (FP.l2d v0)), .second, .val (.double (FP.l2d v0)), .second] [(.double (FP.l2d v0))])) _
      refine XS.dload X11.here hx rfl (hb hby at_195) rfl ?_
      show Steps p.tables e below (T11.setTop (mkF m 197 #[.val (.int p0), .val (.int p1), .val (.int p2), .val (.int p3), .val (.int p4), .val (.int p5), .val (.int (1 : Int32)), .val (.double (FP.l2d v0)), .second, .val (.double (FP.l2d v1)), .second, .val (.double (FP.l2d v2)), .second, .val (.double (FP.l2d v3)), .second, .val (.double (FP.l2d v4)), .second, .val (.ref b8), .val (.double (FP.l2d v0)), .second, .val (.double (FP.l2d v0)), .second] [(.double (FP.l2d v0)), (.double (FP.l2d v0))])) _
      refine XS.dcmpS X11.here hx rfl (hb hby at_197) rfl (dcmpV_self (nn_w rfl) _) ?_
      show Steps p.tables e below (T11.setTop (mkF m 198 #[.val (.int p0), .val (.int p1), .val (.int p2), .val (.int p3), .val (.int p4), .val (.int p5), .val (.int (1 : Int32)), .val (.double (FP.l2d v0)), .second, .val (.double (FP.l2d v1)), .second, .val (.double (FP.l2d v2)), .second, .val (.double (FP.l2d v3)), .second, .val (.double (FP.l2d v4)), .second, .val (.ref b8), .val (.double (FP.l2d v0)), .second, .val (.double (FP.l2d v0)), .second] [(.int (0 : Int32))])) _
      refine XS.ifNo X11.here hx rfl (hb hby at_198) rfl ((if0 _ _).trans (teq (rfl : (0 : Int32) = (0 : Int32))).2) ?_
      show Steps p.tables e below (T11.setTop (mkF m 201 #[.val (.int p0), .val (.int p1), .val (.int p2), .val (.int p3), .val (.int p4), .val (.int p5), .val (.int (1 : Int32)), .val (.double (FP.l2d v0)), .second, .val (.double (FP.l2d v1)), .second, .val (.double (FP.l2d v2)), .second, .val (.double (FP.l2d v3)), .second, .val (.double (FP.l2d v4)), .second, .val (.ref b8), .val (.double (FP.l2d v0)), .second, .val (.double (FP.l2d v0)), .second] [])) _
      refine XS.iconst X11.here hx rfl (hb hby at_201) ?_
      show Steps p.tables e below (T11.setTop (mkF m 202 #[.val (.int p0), .val (.int p1), .val (.int p2), .val (.int p3), .val (.int p4), .val (.int p5), .val (.int (1 : Int32)), .val (.double (FP.l2d v0)), .second, .val (.double (FP.l2d v1)), .second, .val (.double (FP.l2d v2)), .second, .val (.double (FP.l2d v3)), .second, .val (.double (FP.l2d v4)), .second, .val (.ref b8), .val (.double (FP.l2d v0)), .second, .val (.double (FP.l2d v0)), .second] [(.int (1 : Int32))])) _
      refine XS.goto X11.here hx rfl (pc0 := 202) (pc' := 206) rfl (hb hby at_202) (by decide) (by decide) ?_
      show Steps p.tables e below (T11.setTop (mkF m 206 #[.val (.int p0), .val (.int p1), .val (.int p2), .val (.int p3), .val (.int p4), .val (.int p5), .val (.int (1 : Int32)), .val (.double (FP.l2d v0)), .second, .val (.double (FP.l2d v1)), .second, .val (.double (FP.l2d v2)), .second, .val (.double (FP.l2d v3)), .second, .val (.double (FP.l2d v4)), .second, .val (.ref b8), .val (.double (FP.l2d v0)), .second, .val (.double (FP.l2d v0)), .second] [(.int (1 : Int32))])) _
      exact retN X11 hx (t := .boolean) Bd.returns (by simp) (hb hby at_206) hr
    · show rm0Q Z p0 p1 p2 p3 p4 p5 h0 n0 _ T11.heap _
      rw [e11q]
      exact ⟨rfl, N11⟩
  · obtain ⟨T13, h13, k13, X13, e13, E13, A13, st13⟩ := newP X0 hx hZ (hw _ (List.mem_of_getElem? (i := 2) rfl)) e0 (g := (mkF m 58 #[.val (.int p0), .val (.int p1), .val (.int p2), .val (.int p3), .val (.int p4), .val (.int p5), .val (.int (2 : Int32)), .val (.double (FP.l2d v0)), .second, .val (.double (FP.l2d v1)), .second, .val (.double (FP.l2d v2)), .second, .val (.double (FP.l2d v3)), .second, .val (.double (FP.l2d v4)), .second, .unset, .unset, .unset, .unset, .unset] [(.int (2 : Int32))])) rfl (hb hby at_58) rfl (by decide) (cap := 2) (by decide) (by decide) (by decide) (by decide)
    obtain ⟨b13, g13⟩ : ∃ z, z = h0.size := ⟨_, rfl⟩
    rw [← g13] at A13 st13
    have g_b13 : n0 ≤ b13 := Nat.le_trans Z0 (Nat.le_of_eq g13.symm)
    have sz_b13 : h0.size ≤ b13 := Nat.le_trans (Keep.refl h0 []).1 (Nat.le_of_eq g13.symm)
    have V_b13 : Arv Z h13 b13 k13 .double (2 : Int32) [(.double (FP.l2d 0)), (.double (FP.l2d 0))] (.double (FP.l2d 0)) := (Arv.newD A13 (by decide)).pad (pad_rep [] (.double (FP.l2d 0)) 2)
    obtain ⟨cl14, Ar14, q14, S14, N14', H14, G14⟩ := id V_b13
    have hin14 : ¬ ((0 : Int32) < 0 ∨ cl14.slots.size ≤ ((0 : Int32)).toNatClampNeg) := inb_of S14 ⟨by decide, by decide⟩
    obtain ⟨T15, h15, X15, e15, W15, st15⟩ := stD X13 hx hZ e13 Ar14 (j := (0 : Int32)) hin14 (g := (mkF m 67 #[.val (.int p0), .val (.int p1), .val (.int p2), .val (.int p3), .val (.int p4), .val (.int p5), .val (.int (2 : Int32)), .val (.double (FP.l2d v0)), .second, .val (.double (FP.l2d v1)), .second, .val (.double (FP.l2d v2)), .second, .val (.double (FP.l2d v3)), .second, .val (.double (FP.l2d v4)), .second, .val (.ref b13), .unset, .unset, .unset, .unset] [(.double (FP.l2d v0)), (.int (0 : Int32)), (.ref b13)])) rfl rfl (hb hby at_67)
    have Vs15 : Arv Z h15 b13 k13 .double (2 : Int32) [(.double (FP.l2d v0)), (.double (FP.l2d 0))] (.double (FP.l2d 0)) := Arv.set Ar14 q14 S14 N14' H14 G14 rfl W15 0 rfl (Nat.le_of_ble_eq_true rfl)
    have N15 := Fr.snoc X15 N0 g_b13
    obtain ⟨cl16, Ar16, q16, S16, N16', H16, G16⟩ := id Vs15
    have hin16 : ¬ ((1 : Int32) < 0 ∨ cl16.slots.size ≤ ((1 : Int32)).toNatClampNeg) := inb_of S16 ⟨by decide, by decide⟩
    obtain ⟨T17, h17, X17, e17, W17, st17⟩ := stD X15 hx hZ e15 Ar16 (j := (1 : Int32)) hin16 (g := (mkF m 79 #[.val (.int p0), .val (.int p1), .val (.int p2), .val (.int p3), .val (.int p4), .val (.int p5), .val (.int (2 : Int32)), .val (.double (FP.l2d v0)), .second, .val (.double (FP.l2d v1)), .second, .val (.double (FP.l2d v2)), .second, .val (.double (FP.l2d v3)), .second, .val (.double (FP.l2d v4)), .second, .val (.ref b13), .unset, .unset, .unset, .unset] [(.double (FP.l2d v1)), (.int (1 : Int32)), (.ref b13)])) rfl rfl (hb hby at_79)
    have Vs17 : Arv Z h17 b13 k13 .double (2 : Int32) [(.double (FP.l2d v0)), (.double (FP.l2d v1))] (.double (FP.l2d 0)) := Arv.set Ar16 q16 S16 N16' H16 G16 rfl W17 1 rfl (Nat.le_of_ble_eq_true rfl)
    have N17 := Fr.snoc X17 N15 g_b13
    have Zz_19 : n0 ≤ h17.size := (Nat.le_trans (Nat.le_trans (Nat.le_trans Z0 E13.1) (Keep.of_wr W15).1) (Keep.of_wr W17).1)
    obtain ⟨_, _, ⟨T18, L18, k18, n18⟩, -, X18, ⟨Lc18, hQ18, l18, y18, z18⟩, st18⟩ := Jvm.LawKit.callS X17 hx (y := (⟨"com/example/gyre/bench/Handoff", "median", "([D)D"⟩ : MethodName)) hown (mvT hZ (hw _ (List.mem_of_getElem? (i := 3) rfl))) (mvT hZ (hw _ (List.mem_of_getElem? (i := 4) rfl))) (mvT hZ (hw _ (List.mem_of_getElem? (i := 5) rfl))) (mvT hZ (hw _ (List.mem_of_getElem? (i := 6) rfl))) (by decide) (backOf (W := 0) (rm1_2 l Z aw hw [] b13 k13 (FP.l2d v0) (FP.l2d v1) h17 n0 Zz_19 Vs17 (own_nn1 R0 R1) (own_nn2 R0 R1)) hZ (hw _ (List.mem_of_getElem? (i := 6) rfl)) (hw _ (List.mem_of_getElem? (i := 5) rfl)) (by decide) (by decide)) (g := (mkF m 118 #[.val (.int p0), .val (.int p1), .val (.int p2), .val (.int p3), .val (.int p4), .val (.int p5), .val (.int (2 : Int32)), .val (.double (FP.l2d v0)), .second, .val (.double (FP.l2d v1)), .second, .val (.double (FP.l2d v2)), .second, .val (.double (FP.l2d v3)), .second, .val (.double (FP.l2d v4)), .second, .val (.ref b13), .unset, .unset, .unset, .unset] [(.ref b13)])) rfl (by rw [hml]; rfl) (argsL := [(.ref b13)]) (rest := []) (lenOf pd_rm0_0 rfl) rfl (by show 2 * 0 + _ ≤ _; exact Nat.le_of_eq rfl) (hb hby at_118) (fun _ _ => ⟨rfl, e17, (by decide : 1 + 0 ≤ _), (by decide : 2 + 0 ≤ _)⟩)
    dsimp only [Pt.U, Pt.locs, Pt.cells, Pt.slots] at X18 l18 y18 z18 st18 hQ18
    subst l18 y18 z18
    obtain ⟨rfl, N18q, e18q⟩ := hQ18
    have N18 := Fr.app N17 N18q
    obtain ⟨fs, hr, hrun, hended, hW, hsame⟩ := X18.leave (v := some (.int (1 : Int32))) (fun h => by rw [Bd.returns] at h; cases h)
    refine ⟨_, _, pre7 _ ?_, hrun, hended, _, _, rfl, ?_, ⟨_, rfl⟩, hW, hsame.mono (by decide) (by decide)⟩
    · show Steps p.tables e below (s₁.setTop (mkF m 56 #[.val (.int p0), .val (.int p1), .val (.int p2), .val (.int p3), .val (.int p4), .val (.int p5), .val (.int (2 : Int32)), .val (.double (FP.l2d v0)), .second, .val (.double (FP.l2d v1)), .second, .val (.double (FP.l2d v2)), .second, .val (.double (FP.l2d v3)), .second, .val (.double (FP.l2d v4)), .second, .unset, .unset, .unset, .unset, .unset] [])) _
      refine XS.iload X0.here hx rfl (hb hby at_56) rfl ?_
      show Steps p.tables e below (s₁.setTop (mkF m 58 #[.val (.int p0), .val (.int p1), .val (.int p2), .val (.int p3), .val (.int p4), .val (.int p5), .val (.int (2 : Int32)), .val (.double (FP.l2d v0)), .second, .val (.double (FP.l2d v1)), .second, .val (.double (FP.l2d v2)), .second, .val (.double (FP.l2d v3)), .second, .val (.double (FP.l2d v4)), .second, .unset, .unset, .unset, .unset, .unset] [(.int (2 : Int32))])) _
      refine st13 _ ?_
      show Steps p.tables e below (T13.setTop (mkF m 60 #[.val (.int p0), .val (.int p1), .val (.int p2), .val (.int p3), .val (.int p4), .val (.int p5), .val (.int (2 : Int32)), .val (.double (FP.l2d v0)), .second, .val (.double (FP.l2d v1)), .second, .val (.double (FP.l2d v2)), .second, .val (.double (FP.l2d v3)), .second, .val (.double (FP.l2d v4)), .second, .unset, .unset, .unset, .unset, .unset] [(.ref b13)])) _
      refine XS.astore X13.here hx rfl (hb hby at_60) rfl rfl (l' := #[.val (.int p0), .val (.int p1), .val (.int p2), .val (.int p3), .val (.int p4), .val (.int p5), .val (.int (2 : Int32)), .val (.double (FP.l2d v0)), .second, .val (.double (FP.l2d v1)), .second, .val (.double (FP.l2d v2)), .second, .val (.double (FP.l2d v3)), .second, .val (.double (FP.l2d v4)), .second, .val (.ref b13), .unset, .unset, .unset, .unset]) rfl ?_
      show Steps p.tables e below (T13.setTop (mkF m 62 #[.val (.int p0), .val (.int p1), .val (.int p2), .val (.int p3), .val (.int p4), .val (.int p5), .val (.int (2 : Int32)), .val (.double (FP.l2d v0)), .second, .val (.double (FP.l2d v1)), .second, .val (.double (FP.l2d v2)), .second, .val (.double (FP.l2d v3)), .second, .val (.double (FP.l2d v4)), .second, .val (.ref b13), .unset, .unset, .unset, .unset] [])) _
      refine XS.aload X13.here hx rfl (hb hby at_62) rfl rfl ?_
      show Steps p.tables e below (T13.setTop (mkF m 64 #[.val (.int p0), .val (.int p1), .val (.int p2), .val (.int p3), .val (.int p4), .val (.int p5), .val (.int (2 : Int32)), .val (.double (FP.l2d v0)), .second, .val (.double (FP.l2d v1)), .second, .val (.double (FP.l2d v2)), .second, .val (.double (FP.l2d v3)), .second, .val (.double (FP.l2d v4)), .second, .val (.ref b13), .unset, .unset, .unset, .unset] [(.ref b13)])) _
      refine XS.iconst X13.here hx rfl (hb hby at_64) ?_
      show Steps p.tables e below (T13.setTop (mkF m 65 #[.val (.int p0), .val (.int p1), .val (.int p2), .val (.int p3), .val (.int p4), .val (.int p5), .val (.int (2 : Int32)), .val (.double (FP.l2d v0)), .second, .val (.double (FP.l2d v1)), .second, .val (.double (FP.l2d v2)), .second, .val (.double (FP.l2d v3)), .second, .val (.double (FP.l2d v4)), .second, .val (.ref b13), .unset, .unset, .unset, .unset] [(.int (0 : Int32)), (.ref b13)])) _
      refine XS.dload X13.here hx rfl (hb hby at_65) rfl ?_
      show Steps p.tables e below (T13.setTop (mkF m 67 #[.val (.int p0), .val (.int p1), .val (.int p2), .val (.int p3), .val (.int p4), .val (.int p5), .val (.int (2 : Int32)), .val (.double (FP.l2d v0)), .second, .val (.double (FP.l2d v1)), .second, .val (.double (FP.l2d v2)), .second, .val (.double (FP.l2d v3)), .second, .val (.double (FP.l2d v4)), .second, .val (.ref b13), .unset, .unset, .unset, .unset] [(.double (FP.l2d v0)), (.int (0 : Int32)), (.ref b13)])) _
      refine st15 _ ?_
      show Steps p.tables e below (T15.setTop (mkF m 68 #[.val (.int p0), .val (.int p1), .val (.int p2), .val (.int p3), .val (.int p4), .val (.int p5), .val (.int (2 : Int32)), .val (.double (FP.l2d v0)), .second, .val (.double (FP.l2d v1)), .second, .val (.double (FP.l2d v2)), .second, .val (.double (FP.l2d v3)), .second, .val (.double (FP.l2d v4)), .second, .val (.ref b13), .unset, .unset, .unset, .unset] [])) _
      refine XS.iload X15.here hx rfl (hb hby at_68) rfl ?_
      show Steps p.tables e below (T15.setTop (mkF m 70 #[.val (.int p0), .val (.int p1), .val (.int p2), .val (.int p3), .val (.int p4), .val (.int p5), .val (.int (2 : Int32)), .val (.double (FP.l2d v0)), .second, .val (.double (FP.l2d v1)), .second, .val (.double (FP.l2d v2)), .second, .val (.double (FP.l2d v3)), .second, .val (.double (FP.l2d v4)), .second, .val (.ref b13), .unset, .unset, .unset, .unset] [(.int (2 : Int32))])) _
      refine XS.iconst X15.here hx rfl (hb hby at_70) ?_
      show Steps p.tables e below (T15.setTop (mkF m 71 #[.val (.int p0), .val (.int p1), .val (.int p2), .val (.int p3), .val (.int p4), .val (.int p5), .val (.int (2 : Int32)), .val (.double (FP.l2d v0)), .second, .val (.double (FP.l2d v1)), .second, .val (.double (FP.l2d v2)), .second, .val (.double (FP.l2d v3)), .second, .val (.double (FP.l2d v4)), .second, .val (.ref b13), .unset, .unset, .unset, .unset] [(.int (1 : Int32)), (.int (2 : Int32))])) _
      refine XS.icmpNo X15.here hx rfl (hb hby at_71) rfl (tlt ((by decide) : (1 : Int32) < (2 : Int32))).2.2.2 ?_
      show Steps p.tables e below (T15.setTop (mkF m 74 #[.val (.int p0), .val (.int p1), .val (.int p2), .val (.int p3), .val (.int p4), .val (.int p5), .val (.int (2 : Int32)), .val (.double (FP.l2d v0)), .second, .val (.double (FP.l2d v1)), .second, .val (.double (FP.l2d v2)), .second, .val (.double (FP.l2d v3)), .second, .val (.double (FP.l2d v4)), .second, .val (.ref b13), .unset, .unset, .unset, .unset] [])) _
      refine XS.aload X15.here hx rfl (hb hby at_74) rfl rfl ?_
      show Steps p.tables e below (T15.setTop (mkF m 76 #[.val (.int p0), .val (.int p1), .val (.int p2), .val (.int p3), .val (.int p4), .val (.int p5), .val (.int (2 : Int32)), .val (.double (FP.l2d v0)), .second, .val (.double (FP.l2d v1)), .second, .val (.double (FP.l2d v2)), .second, .val (.double (FP.l2d v3)), .second, .val (.double (FP.l2d v4)), .second, .val (.ref b13), .unset, .unset, .unset, .unset] [(.ref b13)])) _
      refine XS.iconst X15.here hx rfl (hb hby at_76) ?_
      show Steps p.tables e below (T15.setTop (mkF m 77 #[.val (.int p0), .val (.int p1), .val (.int p2), .val (.int p3), .val (.int p4), .val (.int p5), .val (.int (2 : Int32)), .val (.double (FP.l2d v0)), .second, .val (.double (FP.l2d v1)), .second, .val (.double (FP.l2d v2)), .second, .val (.double (FP.l2d v3)), .second, .val (.double (FP.l2d v4)), .second, .val (.ref b13), .unset, .unset, .unset, .unset] [(.int (1 : Int32)), (.ref b13)])) _
      refine XS.dload X15.here hx rfl (hb hby at_77) rfl ?_
      show Steps p.tables e below (T15.setTop (mkF m 79 #[.val (.int p0), .val (.int p1), .val (.int p2), .val (.int p3), .val (.int p4), .val (.int p5), .val (.int (2 : Int32)), .val (.double (FP.l2d v0)), .second, .val (.double (FP.l2d v1)), .second, .val (.double (FP.l2d v2)), .second, .val (.double (FP.l2d v3)), .second, .val (.double (FP.l2d v4)), .second, .val (.ref b13), .unset, .unset, .unset, .unset] [(.double (FP.l2d v1)), (.int (1 : Int32)), (.ref b13)])) _
      refine st17 _ ?_
      show Steps p.tables e below (T17.setTop (mkF m 80 #[.val (.int p0), .val (.int p1), .val (.int p2), .val (.int p3), .val (.int p4), .val (.int p5), .val (.int (2 : Int32)), .val (.double (FP.l2d v0)), .second, .val (.double (FP.l2d v1)), .second, .val (.double (FP.l2d v2)), .second, .val (.double (FP.l2d v3)), .second, .val (.double (FP.l2d v4)), .second, .val (.ref b13), .unset, .unset, .unset, .unset] [])) _
      refine XS.iload X17.here hx rfl (hb hby at_80) rfl ?_
      show Steps p.tables e below (T17.setTop (mkF m 82 #[.val (.int p0), .val (.int p1), .val (.int p2), .val (.int p3), .val (.int p4), .val (.int p5), .val (.int (2 : Int32)), .val (.double (FP.l2d v0)), .second, .val (.double (FP.l2d v1)), .second, .val (.double (FP.l2d v2)), .second, .val (.double (FP.l2d v3)), .second, .val (.double (FP.l2d v4)), .second, .val (.ref b13), .unset, .unset, .unset, .unset] [(.int (2 : Int32))])) _
      refine XS.iconst X17.here hx rfl (hb hby at_82) ?_
      show Steps p.tables e below (T17.setTop (mkF m 83 #[.val (.int p0), .val (.int p1), .val (.int p2), .val (.int p3), .val (.int p4), .val (.int p5), .val (.int (2 : Int32)), .val (.double (FP.l2d v0)), .second, .val (.double (FP.l2d v1)), .second, .val (.double (FP.l2d v2)), .second, .val (.double (FP.l2d v3)), .second, .val (.double (FP.l2d v4)), .second, .val (.ref b13), .unset, .unset, .unset, .unset] [(.int (2 : Int32)), (.int (2 : Int32))])) _
      refine XS.icmpYes X17.here hx rfl (pc0 := 83) (pc' := 92) rfl (hb hby at_83) rfl (flt ((by decide) : ¬ ((2 : Int32) < (2 : Int32)))).2.2.2 (by decide) (by decide) ?_
      show Steps p.tables e below (T17.setTop (mkF m 92 #[.val (.int p0), .val (.int p1), .val (.int p2), .val (.int p3), .val (.int p4), .val (.int p5), .val (.int (2 : Int32)), .val (.double (FP.l2d v0)), .second, .val (.double (FP.l2d v1)), .second, .val (.double (FP.l2d v2)), .second, .val (.double (FP.l2d v3)), .second, .val (.double (FP.l2d v4)), .second, .val (.ref b13), .unset, .unset, .unset, .unset] [])) _
      refine XS.iload X17.here hx rfl (hb hby at_92) rfl ?_
      show Steps p.tables e below (T17.setTop (mkF m 94 #[.val (.int p0), .val (.int p1), .val (.int p2), .val (.int p3), .val (.int p4), .val (.int p5), .val (.int (2 : Int32)), .val (.double (FP.l2d v0)), .second, .val (.double (FP.l2d v1)), .second, .val (.double (FP.l2d v2)), .second, .val (.double (FP.l2d v3)), .second, .val (.double (FP.l2d v4)), .second, .val (.ref b13), .unset, .unset, .unset, .unset] [(.int (2 : Int32))])) _
      refine XS.iconst X17.here hx rfl (hb hby at_94) ?_
      show Steps p.tables e below (T17.setTop (mkF m 95 #[.val (.int p0), .val (.int p1), .val (.int p2), .val (.int p3), .val (.int p4), .val (.int p5), .val (.int (2 : Int32)), .val (.double (FP.l2d v0)), .second, .val (.double (FP.l2d v1)), .second, .val (.double (FP.l2d v2)), .second, .val (.double (FP.l2d v3)), .second, .val (.double (FP.l2d v4)), .second, .val (.ref b13), .unset, .unset, .unset, .unset] [(.int (3 : Int32)), (.int (2 : Int32))])) _
      refine XS.icmpYes X17.here hx rfl (pc0 := 95) (pc' := 104) rfl (hb hby at_95) rfl (flt ((by decide) : ¬ ((3 : Int32) < (2 : Int32)))).2.2.2 (by decide) (by decide) ?_
      show Steps p.tables e below (T17.setTop (mkF m 104 #[.val (.int p0), .val (.int p1), .val (.int p2), .val (.int p3), .val (.int p4), .val (.int p5), .val (.int (2 : Int32)), .val (.double (FP.l2d v0)), .second, .val (.double (FP.l2d v1)), .second, .val (.double (FP.l2d v2)), .second, .val (.double (FP.l2d v3)), .second, .val (.double (FP.l2d v4)), .second, .val (.ref b13), .unset, .unset, .unset, .unset] [])) _
      refine XS.iload X17.here hx rfl (hb hby at_104) rfl ?_
      show Steps p.tables e below (T17.setTop (mkF m 106 #[.val (.int p0), .val (.int p1), .val (.int p2), .val (.int p3), .val (.int p4), .val (.int p5), .val (.int (2 : Int32)), .val (.double (FP.l2d v0)), .second, .val (.double (FP.l2d v1)), .second, .val (.double (FP.l2d v2)), .second, .val (.double (FP.l2d v3)), .second, .val (.double (FP.l2d v4)), .second, .val (.ref b13), .unset, .unset, .unset, .unset] [(.int (2 : Int32))])) _
      refine XS.iconst X17.here hx rfl (hb hby at_106) ?_
      show Steps p.tables e below (T17.setTop (mkF m 107 #[.val (.int p0), .val (.int p1), .val (.int p2), .val (.int p3), .val (.int p4), .val (.int p5), .val (.int (2 : Int32)), .val (.double (FP.l2d v0)), .second, .val (.double (FP.l2d v1)), .second, .val (.double (FP.l2d v2)), .second, .val (.double (FP.l2d v3)), .second, .val (.double (FP.l2d v4)), .second, .val (.ref b13), .unset, .unset, .unset, .unset] [(.int (4 : Int32)), (.int (2 : Int32))])) _
      refine XS.icmpYes X17.here hx rfl (pc0 := 107) (pc' := 116) rfl (hb hby at_107) rfl (flt ((by decide) : ¬ ((4 : Int32) < (2 : Int32)))).2.2.2 (by decide) (by decide) ?_
      show Steps p.tables e below (T17.setTop (mkF m 116 #[.val (.int p0), .val (.int p1), .val (.int p2), .val (.int p3), .val (.int p4), .val (.int p5), .val (.int (2 : Int32)), .val (.double (FP.l2d v0)), .second, .val (.double (FP.l2d v1)), .second, .val (.double (FP.l2d v2)), .second, .val (.double (FP.l2d v3)), .second, .val (.double (FP.l2d v4)), .second, .val (.ref b13), .unset, .unset, .unset, .unset] [])) _
      refine XS.aload X17.here hx rfl (hb hby at_116) rfl rfl ?_
      show Steps p.tables e below (T17.setTop (mkF m 118 #[.val (.int p0), .val (.int p1), .val (.int p2), .val (.int p3), .val (.int p4), .val (.int p5), .val (.int (2 : Int32)), .val (.double (FP.l2d v0)), .second, .val (.double (FP.l2d v1)), .second, .val (.double (FP.l2d v2)), .second, .val (.double (FP.l2d v3)), .second, .val (.double (FP.l2d v4)), .second, .val (.ref b13), .unset, .unset, .unset, .unset] [(.ref b13)])) _
      refine st18 _ ?_
      show Steps p.tables e below (T18.setTop (mkF m 121 #[.val (.int p0), .val (.int p1), .val (.int p2), .val (.int p3), .val (.int p4), .val (.int p5), .val (.int (2 : Int32)), .val (.double (FP.l2d v0)), .second, .val (.double (FP.l2d v1)), .second, .val (.double (FP.l2d v2)), .second, .val (.double (FP.l2d v3)), .second, .val (.double (FP.l2d v4)), .second, .val (.ref b13), .unset, .unset, .unset, .unset] [(.double (FP.ddiv (FP.dadd (FP.l2d v0) (FP.l2d v1)) (4611686018427387904 : UInt64)))])) _
      refine XS.dstore X18.here hx rfl (hb hby at_121) rfl (l' := #[.val (.int p0), .val (.int p1), .val (.int p2), .val (.int p3), .val (.int p4), .val (.int p5), .val (.int (2 : Int32)), .val (.double (FP.l2d v0)), .second, .val (.double (FP.l2d v1)), .second, .val (.double (FP.l2d v2)), .second, .val (.double (FP.l2d v3)), .second, .val (.double (FP.l2d v4)), .second, .val (.ref b13), .val (.double (FP.ddiv (FP.dadd (FP.l2d v0) (FP.l2d v1)) (4611686018427387904 : UInt64))), .second, .unset, .unset]) rfl ?_
      show Steps p.tables e below (T18.setTop (mkF m 123 #[.val (.int p0), .val (.int p1), .val (.int p2), .val (.int p3), .val (.int p4), .val (.int p5), .val (.int (2 : Int32)), .val (.double (FP.l2d v0)), .second, .val (.double (FP.l2d v1)), .second, .val (.double (FP.l2d v2)), .second, .val (.double (FP.l2d v3)), .second, .val (.double (FP.l2d v4)), .second, .val (.ref b13), .val (.double (FP.ddiv (FP.dadd (FP.l2d v0) (FP.l2d v1)) (4611686018427387904 : UInt64))), .second, .unset, .unset] [])) _
      refine XS.iload X18.here hx rfl (hb hby at_123) rfl ?_
      show Steps p.tables e below (T18.setTop (mkF m 125 #[.val (.int p0), .val (.int p1), .val (.int p2), .val (.int p3), .val (.int p4), .val (.int p5), .val (.int (2 : Int32)), .val (.double (FP.l2d v0)), .second, .val (.double (FP.l2d v1)), .second, .val (.double (FP.l2d v2)), .second, .val (.double (FP.l2d v3)), .second, .val (.double (FP.l2d v4)), .second, .val (.ref b13), .val (.double (FP.ddiv (FP.dadd (FP.l2d v0) (FP.l2d v1)) (4611686018427387904 : UInt64))), .second, .unset, .unset] [(.int (2 : Int32))])) _
      refine XS.iconst X18.here hx rfl (hb hby at_125) ?_
      show Steps p.tables e below (T18.setTop (mkF m 126 #[.val (.int p0), .val (.int p1), .val (.int p2), .val (.int p3), .val (.int p4), .val (.int p5), .val (.int (2 : Int32)), .val (.double (FP.l2d v0)), .second, .val (.double (FP.l2d v1)), .second, .val (.double (FP.l2d v2)), .second, .val (.double (FP.l2d v3)), .second, .val (.double (FP.l2d v4)), .second, .val (.ref b13), .val (.double (FP.ddiv (FP.dadd (FP.l2d v0) (FP.l2d v1)) (4611686018427387904 : UInt64))), .second, .unset, .unset] [(.int (1 : Int32)), (.int (2 : Int32))])) _
      refine XS.icmpYes X18.here hx rfl (pc0 := 126) (pc' := 136) rfl (hb hby at_126) rfl (feq ((by decide) : ¬ ((2 : Int32) = (1 : Int32)))).2 (by decide) (by decide) ?_
      show Steps p.tables e below (T18.setTop (mkF m 136 #[.val (.int p0), .val (.int p1), .val (.int p2), .val (.int p3), .val (.int p4), .val (.int p5), .val (.int (2 : Int32)), .val (.double (FP.l2d v0)), .second, .val (.double (FP.l2d v1)), .second, .val (.double (FP.l2d v2)), .second, .val (.double (FP.l2d v3)), .second, .val (.double (FP.l2d v4)), .second, .val (.ref b13), .val (.double (FP.ddiv (FP.dadd (FP.l2d v0) (FP.l2d v1)) (4611686018427387904 : UInt64))), .second, .unset, .unset] [])) _
      refine XS.iload X18.here hx rfl (hb hby at_136) rfl ?_
      show Steps p.tables e below (T18.setTop (mkF m 138 #[.val (.int p0), .val (.int p1), .val (.int p2), .val (.int p3), .val (.int p4), .val (.int p5), .val (.int (2 : Int32)), .val (.double (FP.l2d v0)), .second, .val (.double (FP.l2d v1)), .second, .val (.double (FP.l2d v2)), .second, .val (.double (FP.l2d v3)), .second, .val (.double (FP.l2d v4)), .second, .val (.ref b13), .val (.double (FP.ddiv (FP.dadd (FP.l2d v0) (FP.l2d v1)) (4611686018427387904 : UInt64))), .second, .unset, .unset] [(.int (2 : Int32))])) _
      refine XS.iconst X18.here hx rfl (hb hby at_138) ?_
      show Steps p.tables e below (T18.setTop (mkF m 139 #[.val (.int p0), .val (.int p1), .val (.int p2), .val (.int p3), .val (.int p4), .val (.int p5), .val (.int (2 : Int32)), .val (.double (FP.l2d v0)), .second, .val (.double (FP.l2d v1)), .second, .val (.double (FP.l2d v2)), .second, .val (.double (FP.l2d v3)), .second, .val (.double (FP.l2d v4)), .second, .val (.ref b13), .val (.double (FP.ddiv (FP.dadd (FP.l2d v0) (FP.l2d v1)) (4611686018427387904 : UInt64))), .second, .unset, .unset] [(.int (2 : Int32)), (.int (2 : Int32))])) _
      refine XS.icmpNo X18.here hx rfl (hb hby at_139) rfl (teq (rfl : (2 : Int32) = (2 : Int32))).2 ?_
      show Steps p.tables e below (T18.setTop (mkF m 142 #[.val (.int p0), .val (.int p1), .val (.int p2), .val (.int p3), .val (.int p4), .val (.int p5), .val (.int (2 : Int32)), .val (.double (FP.l2d v0)), .second, .val (.double (FP.l2d v1)), .second, .val (.double (FP.l2d v2)), .second, .val (.double (FP.l2d v3)), .second, .val (.double (FP.l2d v4)), .second, .val (.ref b13), .val (.double (FP.ddiv (FP.dadd (FP.l2d v0) (FP.l2d v1)) (4611686018427387904 : UInt64))), .second, .unset, .unset] [])) _
      refine XS.dload X18.here hx rfl (hb hby at_142) rfl ?_
      show Steps p.tables e below (T18.setTop (mkF m 144 #[.val (.int p0), .val (.int p1), .val (.int p2), .val (.int p3), .val (.int p4), .val (.int p5), .val (.int (2 : Int32)), .val (.double (FP.l2d v0)), .second, .val (.double (FP.l2d v1)), .second, .val (.double (FP.l2d v2)), .second, .val (.double (FP.l2d v3)), .second, .val (.double (FP.l2d v4)), .second, .val (.ref b13), .val (.double (FP.ddiv (FP.dadd (FP.l2d v0) (FP.l2d v1)) (4611686018427387904 : UInt64))), .second, .unset, .unset] [(.double (FP.l2d v0))])) _
      refine XS.dload X18.here hx rfl (hb hby at_144) rfl ?_
      show Steps p.tables e below (T18.setTop (mkF m 146 #[.val (.int p0), .val (.int p1), .val (.int p2), .val (.int p3), .val (.int p4), .val (.int p5), .val (.int (2 : Int32)), .val (.double (FP.l2d v0)), .second, .val (.double (FP.l2d v1)), .second, .val (.double (FP.l2d v2)), .second, .val (.double (FP.l2d v3)), .second, .val (.double (FP.l2d v4)), .second, .val (.ref b13), .val (.double (FP.ddiv (FP.dadd (FP.l2d v0) (FP.l2d v1)) (4611686018427387904 : UInt64))), .second, .unset, .unset] [(.double (FP.l2d v1)), (.double (FP.l2d v0))])) _
      refine XS.daddS X18.here hx rfl (hb hby at_146) rfl (own_nn1 R0 R1) rfl ?_
      show Steps p.tables e below (T18.setTop (mkF m 147 #[.val (.int p0), .val (.int p1), .val (.int p2), .val (.int p3), .val (.int p4), .val (.int p5), .val (.int (2 : Int32)), .val (.double (FP.l2d v0)), .second, .val (.double (FP.l2d v1)), .second, .val (.double (FP.l2d v2)), .second, .val (.double (FP.l2d v3)), .second, .val (.double (FP.l2d v4)), .second, .val (.ref b13), .val (.double (FP.ddiv (FP.dadd (FP.l2d v0) (FP.l2d v1)) (4611686018427387904 : UInt64))), .second, .unset, .unset] [(.double (FP.dadd (FP.l2d v0) (FP.l2d v1)))])) _
      refine X18.ldc2DoubleC hx hown (mvT hZ (hw _ (List.mem_of_getElem? (i := 8) rfl))) (g := (mkF m 147 #[.val (.int p0), .val (.int p1), .val (.int p2), .val (.int p3), .val (.int p4), .val (.int p5), .val (.int (2 : Int32)), .val (.double (FP.l2d v0)), .second, .val (.double (FP.l2d v1)), .second, .val (.double (FP.l2d v2)), .second, .val (.double (FP.l2d v3)), .second, .val (.double (FP.l2d v4)), .second, .val (.ref b13), .val (.double (FP.ddiv (FP.dadd (FP.l2d v0) (FP.l2d v1)) (4611686018427387904 : UInt64))), .second, .unset, .unset] [(.double (FP.dadd (FP.l2d v0) (FP.l2d v1)))])) rfl (hb hby at_147) _ ?_
      show Steps p.tables e below (T18.setTop (mkF m 150 #[.val (.int p0), .val (.int p1), .val (.int p2), .val (.int p3), .val (.int p4), .val (.int p5), .val (.int (2 : Int32)), .val (.double (FP.l2d v0)), .second, .val (.double (FP.l2d v1)), .second, .val (.double (FP.l2d v2)), .second, .val (.double (FP.l2d v3)), .second, .val (.double (FP.l2d v4)), .second, .val (.ref b13), .val (.double (FP.ddiv (FP.dadd (FP.l2d v0) (FP.l2d v1)) (4611686018427387904 : UInt64))), .second, .unset, .unset] [(.double (4611686018427387904 : UInt64)), (.double (FP.dadd (FP.l2d v0) (FP.l2d v1)))])) _
      refine XS.ddivS X18.here hx rfl (hb hby at_150) rfl (own_nn2 R0 R1) rfl ?_
      show Steps p.tables e below (T18.setTop (mkF m 151 #[.val (.int p0), .val (.int p1), .val (.int p2), .val (.int p3), .val (.int p4), .val (.int p5), .val (.int (2 : Int32)), .val (.double (FP.l2d v0)), .second, .val (.double (FP.l2d v1)), .second, .val (.double (FP.l2d v2)), .second, .val (.double (FP.l2d v3)), .second, .val (.double (FP.l2d v4)), .second, .val (.ref b13), .val (.double (FP.ddiv (FP.dadd (FP.l2d v0) (FP.l2d v1)) (4611686018427387904 : UInt64))), .second, .unset, .unset] [(.double (FP.ddiv (FP.dadd (FP.l2d v0) (FP.l2d v1)) (4611686018427387904 : UInt64)))])) _
      refine XS.dstore X18.here hx rfl (hb hby at_151) rfl (l' := #[.val (.int p0), .val (.int p1), .val (.int p2), .val (.int p3), .val (.int p4), .val (.int p5), .val (.int (2 : Int32)), .val (.double (FP.l2d v0)), .second, .val (.double (FP.l2d v1)), .second, .val (.double (FP.l2d v2)), .second, .val (.double (FP.l2d v3)), .second, .val (.double (FP.l2d v4)), .second, .val (.ref b13), .val (.double (FP.ddiv (FP.dadd (FP.l2d v0) (FP.l2d v1)) (4611686018427387904 : UInt64))), .second, .val (.double (FP.ddiv (FP.dadd (FP.l2d v0) (FP.l2d v1)) (4611686018427387904 : UInt64))), .second]) rfl ?_
      show Steps p.tables e below (T18.setTop (mkF m 153 #[.val (.int p0), .val (.int p1), .val (.int p2), .val (.int p3), .val (.int p4), .val (.int p5), .val (.int (2 : Int32)), .val (.double (FP.l2d v0)), .second, .val (.double (FP.l2d v1)), .second, .val (.double (FP.l2d v2)), .second, .val (.double (FP.l2d v3)), .second, .val (.double (FP.l2d v4)), .second, .val (.ref b13), .val (.double (FP.ddiv (FP.dadd (FP.l2d v0) (FP.l2d v1)) (4611686018427387904 : UInt64))), .second, .val (.double (FP.ddiv (FP.dadd (FP.l2d v0) (FP.l2d v1)) (4611686018427387904 : UInt64))), .second] [])) _
      refine XS.goto X18.here hx rfl (pc0 := 153) (pc' := 193) rfl (hb hby at_153) (by decide) (by decide) ?_
      show Steps p.tables e below (T18.setTop (mkF m 193 #[.val (.int p0), .val (.int p1), .val (.int p2), .val (.int p3), .val (.int p4), .val (.int p5), .val (.int (2 : Int32)), .val (.double (FP.l2d v0)), .second, .val (.double (FP.l2d v1)), .second, .val (.double (FP.l2d v2)), .second, .val (.double (FP.l2d v3)), .second, .val (.double (FP.l2d v4)), .second, .val (.ref b13), .val (.double (FP.ddiv (FP.dadd (FP.l2d v0) (FP.l2d v1)) (4611686018427387904 : UInt64))), .second, .val (.double (FP.ddiv (FP.dadd (FP.l2d v0) (FP.l2d v1)) (4611686018427387904 : UInt64))), .second] [])) _
      refine XS.dload X18.here hx rfl (hb hby at_193) rfl ?_
      show Steps p.tables e below (T18.setTop (mkF m 195 #[.val (.int p0), .val (.int p1), .val (.int p2), .val (.int p3), .val (.int p4), .val (.int p5), .val (.int (2 : Int32)), .val (.double (FP.l2d v0)), .second, .val (.double (FP.l2d v1)), .second, .val (.double (FP.l2d v2)), .second, .val (.double (FP.l2d v3)), .second, .val (.double (FP.l2d v4)), .second, .val (.ref b13), .val (.double (FP.ddiv (FP.dadd (FP.l2d v0) (FP.l2d v1)) (4611686018427387904 : UInt64))), .second, .val (.double (FP.ddiv (FP.dadd (FP.l2d v0) (FP.l2d v1)) (4611686018427387904 : UInt64))), .second] [(.double (FP.ddiv (FP.dadd (FP.l2d v0) (FP.l2d v1)) (4611686018427387904 : UInt64)))])) _
      refine XS.dload X18.here hx rfl (hb hby at_195) rfl ?_
      show Steps p.tables e below (T18.setTop (mkF m 197 #[.val (.int p0), .val (.int p1), .val (.int p2), .val (.int p3), .val (.int p4), .val (.int p5), .val (.int (2 : Int32)), .val (.double (FP.l2d v0)), .second, .val (.double (FP.l2d v1)), .second, .val (.double (FP.l2d v2)), .second, .val (.double (FP.l2d v3)), .second, .val (.double (FP.l2d v4)), .second, .val (.ref b13), .val (.double (FP.ddiv (FP.dadd (FP.l2d v0) (FP.l2d v1)) (4611686018427387904 : UInt64))), .second, .val (.double (FP.ddiv (FP.dadd (FP.l2d v0) (FP.l2d v1)) (4611686018427387904 : UInt64))), .second] [(.double (FP.ddiv (FP.dadd (FP.l2d v0) (FP.l2d v1)) (4611686018427387904 : UInt64))), (.double (FP.ddiv (FP.dadd (FP.l2d v0) (FP.l2d v1)) (4611686018427387904 : UInt64)))])) _
      refine XS.dcmpS X18.here hx rfl (hb hby at_197) rfl (dcmpV_self (own_nn2 R0 R1) _) ?_
      show Steps p.tables e below (T18.setTop (mkF m 198 #[.val (.int p0), .val (.int p1), .val (.int p2), .val (.int p3), .val (.int p4), .val (.int p5), .val (.int (2 : Int32)), .val (.double (FP.l2d v0)), .second, .val (.double (FP.l2d v1)), .second, .val (.double (FP.l2d v2)), .second, .val (.double (FP.l2d v3)), .second, .val (.double (FP.l2d v4)), .second, .val (.ref b13), .val (.double (FP.ddiv (FP.dadd (FP.l2d v0) (FP.l2d v1)) (4611686018427387904 : UInt64))), .second, .val (.double (FP.ddiv (FP.dadd (FP.l2d v0) (FP.l2d v1)) (4611686018427387904 : UInt64))), .second] [(.int (0 : Int32))])) _
      refine XS.ifNo X18.here hx rfl (hb hby at_198) rfl ((if0 _ _).trans (teq (rfl : (0 : Int32) = (0 : Int32))).2) ?_
      show Steps p.tables e below (T18.setTop (mkF m 201 #[.val (.int p0), .val (.int p1), .val (.int p2), .val (.int p3), .val (.int p4), .val (.int p5), .val (.int (2 : Int32)), .val (.double (FP.l2d v0)), .second, .val (.double (FP.l2d v1)), .second, .val (.double (FP.l2d v2)), .second, .val (.double (FP.l2d v3)), .second, .val (.double (FP.l2d v4)), .second, .val (.ref b13), .val (.double (FP.ddiv (FP.dadd (FP.l2d v0) (FP.l2d v1)) (4611686018427387904 : UInt64))), .second, .val (.double (FP.ddiv (FP.dadd (FP.l2d v0) (FP.l2d v1)) (4611686018427387904 : UInt64))), .second] [])) _
      refine XS.iconst X18.here hx rfl (hb hby at_201) ?_
      show Steps p.tables e below (T18.setTop (mkF m 202 #[.val (.int p0), .val (.int p1), .val (.int p2), .val (.int p3), .val (.int p4), .val (.int p5), .val (.int (2 : Int32)), .val (.double (FP.l2d v0)), .second, .val (.double (FP.l2d v1)), .second, .val (.double (FP.l2d v2)), .second, .val (.double (FP.l2d v3)), .second, .val (.double (FP.l2d v4)), .second, .val (.ref b13), .val (.double (FP.ddiv (FP.dadd (FP.l2d v0) (FP.l2d v1)) (4611686018427387904 : UInt64))), .second, .val (.double (FP.ddiv (FP.dadd (FP.l2d v0) (FP.l2d v1)) (4611686018427387904 : UInt64))), .second] [(.int (1 : Int32))])) _
      refine XS.goto X18.here hx rfl (pc0 := 202) (pc' := 206) rfl (hb hby at_202) (by decide) (by decide) ?_
      show Steps p.tables e below (T18.setTop (mkF m 206 #[.val (.int p0), .val (.int p1), .val (.int p2), .val (.int p3), .val (.int p4), .val (.int p5), .val (.int (2 : Int32)), .val (.double (FP.l2d v0)), .second, .val (.double (FP.l2d v1)), .second, .val (.double (FP.l2d v2)), .second, .val (.double (FP.l2d v3)), .second, .val (.double (FP.l2d v4)), .second, .val (.ref b13), .val (.double (FP.ddiv (FP.dadd (FP.l2d v0) (FP.l2d v1)) (4611686018427387904 : UInt64))), .second, .val (.double (FP.ddiv (FP.dadd (FP.l2d v0) (FP.l2d v1)) (4611686018427387904 : UInt64))), .second] [(.int (1 : Int32))])) _
      exact retN X18 hx (t := .boolean) Bd.returns (by simp) (hb hby at_206) hr
    · show rm0Q Z p0 p1 p2 p3 p4 p5 h0 n0 _ T18.heap _
      rw [e18q]
      exact ⟨rfl, N18⟩
  · obtain ⟨T20, h20, k20, X20, e20, E20, A20, st20⟩ := newP X0 hx hZ (hw _ (List.mem_of_getElem? (i := 2) rfl)) e0 (g := (mkF m 58 #[.val (.int p0), .val (.int p1), .val (.int p2), .val (.int p3), .val (.int p4), .val (.int p5), .val (.int (3 : Int32)), .val (.double (FP.l2d v0)), .second, .val (.double (FP.l2d v1)), .second, .val (.double (FP.l2d v2)), .second, .val (.double (FP.l2d v3)), .second, .val (.double (FP.l2d v4)), .second, .unset, .unset, .unset, .unset, .unset] [(.int (3 : Int32))])) rfl (hb hby at_58) rfl (by decide) (cap := 3) (by decide) (by decide) (by decide) (by decide)
    obtain ⟨b20, g20⟩ : ∃ z, z = h0.size := ⟨_, rfl⟩
    rw [← g20] at A20 st20
    have g_b20 : n0 ≤ b20 := Nat.le_trans Z0 (Nat.le_of_eq g20.symm)
    have sz_b20 : h0.size ≤ b20 := Nat.le_trans (Keep.refl h0 []).1 (Nat.le_of_eq g20.symm)
    have V_b20 : Arv Z h20 b20 k20 .double (3 : Int32) [(.double (FP.l2d 0)), (.double (FP.l2d 0)), (.double (FP.l2d 0))] (.double (FP.l2d 0)) := (Arv.newD A20 (by decide)).pad (pad_rep [] (.double (FP.l2d 0)) 3)
    obtain ⟨cl21, Ar21, q21, S21, N21', H21, G21⟩ := id V_b20
    have hin21 : ¬ ((0 : Int32) < 0 ∨ cl21.slots.size ≤ ((0 : Int32)).toNatClampNeg) := inb_of S21 ⟨by decide, by decide⟩
    obtain ⟨T22, h22, X22, e22, W22, st22⟩ := stD X20 hx hZ e20 Ar21 (j := (0 : Int32)) hin21 (g := (mkF m 67 #[.val (.int p0), .val (.int p1), .val (.int p2), .val (.int p3), .val (.int p4), .val (.int p5), .val (.int (3 : Int32)), .val (.double (FP.l2d v0)), .second, .val (.double (FP.l2d v1)), .second, .val (.double (FP.l2d v2)), .second, .val (.double (FP.l2d v3)), .second, .val (.double (FP.l2d v4)), .second, .val (.ref b20), .unset, .unset, .unset, .unset] [(.double (FP.l2d v0)), (.int (0 : Int32)), (.ref b20)])) rfl rfl (hb hby at_67)
    have Vs22 : Arv Z h22 b20 k20 .double (3 : Int32) [(.double (FP.l2d v0)), (.double (FP.l2d 0)), (.double (FP.l2d 0))] (.double (FP.l2d 0)) := Arv.set Ar21 q21 S21 N21' H21 G21 rfl W22 0 rfl (Nat.le_of_ble_eq_true rfl)
    have N22 := Fr.snoc X22 N0 g_b20
    obtain ⟨cl23, Ar23, q23, S23, N23', H23, G23⟩ := id Vs22
    have hin23 : ¬ ((1 : Int32) < 0 ∨ cl23.slots.size ≤ ((1 : Int32)).toNatClampNeg) := inb_of S23 ⟨by decide, by decide⟩
    obtain ⟨T24, h24, X24, e24, W24, st24⟩ := stD X22 hx hZ e22 Ar23 (j := (1 : Int32)) hin23 (g := (mkF m 79 #[.val (.int p0), .val (.int p1), .val (.int p2), .val (.int p3), .val (.int p4), .val (.int p5), .val (.int (3 : Int32)), .val (.double (FP.l2d v0)), .second, .val (.double (FP.l2d v1)), .second, .val (.double (FP.l2d v2)), .second, .val (.double (FP.l2d v3)), .second, .val (.double (FP.l2d v4)), .second, .val (.ref b20), .unset, .unset, .unset, .unset] [(.double (FP.l2d v1)), (.int (1 : Int32)), (.ref b20)])) rfl rfl (hb hby at_79)
    have Vs24 : Arv Z h24 b20 k20 .double (3 : Int32) [(.double (FP.l2d v0)), (.double (FP.l2d v1)), (.double (FP.l2d 0))] (.double (FP.l2d 0)) := Arv.set Ar23 q23 S23 N23' H23 G23 rfl W24 1 rfl (Nat.le_of_ble_eq_true rfl)
    have N24 := Fr.snoc X24 N22 g_b20
    obtain ⟨cl25, Ar25, q25, S25, N25', H25, G25⟩ := id Vs24
    have hin25 : ¬ ((2 : Int32) < 0 ∨ cl25.slots.size ≤ ((2 : Int32)).toNatClampNeg) := inb_of S25 ⟨by decide, by decide⟩
    obtain ⟨T26, h26, X26, e26, W26, st26⟩ := stD X24 hx hZ e24 Ar25 (j := (2 : Int32)) hin25 (g := (mkF m 91 #[.val (.int p0), .val (.int p1), .val (.int p2), .val (.int p3), .val (.int p4), .val (.int p5), .val (.int (3 : Int32)), .val (.double (FP.l2d v0)), .second, .val (.double (FP.l2d v1)), .second, .val (.double (FP.l2d v2)), .second, .val (.double (FP.l2d v3)), .second, .val (.double (FP.l2d v4)), .second, .val (.ref b20), .unset, .unset, .unset, .unset] [(.double (FP.l2d v2)), (.int (2 : Int32)), (.ref b20)])) rfl rfl (hb hby at_91)
    have Vs26 : Arv Z h26 b20 k20 .double (3 : Int32) [(.double (FP.l2d v0)), (.double (FP.l2d v1)), (.double (FP.l2d v2))] (.double (FP.l2d 0)) := Arv.set Ar25 q25 S25 N25' H25 G25 rfl W26 2 rfl (Nat.le_of_ble_eq_true rfl)
    have N26 := Fr.snoc X26 N24 g_b20
    have Zz_28 : n0 ≤ h26.size := (Nat.le_trans (Nat.le_trans (Nat.le_trans (Nat.le_trans Z0 E20.1) (Keep.of_wr W22).1) (Keep.of_wr W24).1) (Keep.of_wr W26).1)
    obtain ⟨_, _, ⟨T27, L27, k27, n27⟩, -, X27, ⟨Lc27, hQ27, l27, y27, z27⟩, st27⟩ := Jvm.LawKit.callS X26 hx (y := (⟨"com/example/gyre/bench/Handoff", "median", "([D)D"⟩ : MethodName)) hown (mvT hZ (hw _ (List.mem_of_getElem? (i := 3) rfl))) (mvT hZ (hw _ (List.mem_of_getElem? (i := 4) rfl))) (mvT hZ (hw _ (List.mem_of_getElem? (i := 5) rfl))) (mvT hZ (hw _ (List.mem_of_getElem? (i := 6) rfl))) (by decide) (backOf (W := 0) (rm1_3 l Z aw hw [] b20 k20 (FP.l2d v0) (FP.l2d v1) (FP.l2d v2) h26 n0 Zz_28 Vs26) hZ (hw _ (List.mem_of_getElem? (i := 6) rfl)) (hw _ (List.mem_of_getElem? (i := 5) rfl)) (by decide) (by decide)) (g := (mkF m 118 #[.val (.int p0), .val (.int p1), .val (.int p2), .val (.int p3), .val (.int p4), .val (.int p5), .val (.int (3 : Int32)), .val (.double (FP.l2d v0)), .second, .val (.double (FP.l2d v1)), .second, .val (.double (FP.l2d v2)), .second, .val (.double (FP.l2d v3)), .second, .val (.double (FP.l2d v4)), .second, .val (.ref b20), .unset, .unset, .unset, .unset] [(.ref b20)])) rfl (by rw [hml]; rfl) (argsL := [(.ref b20)]) (rest := []) (lenOf pd_rm0_0 rfl) rfl (by show 2 * 0 + _ ≤ _; exact Nat.le_of_eq rfl) (hb hby at_118) (fun _ _ => ⟨rfl, e26, (by decide : 1 + 0 ≤ _), (by decide : 3 + 0 ≤ _)⟩)
    dsimp only [Pt.U, Pt.locs, Pt.cells, Pt.slots] at X27 l27 y27 z27 st27 hQ27
    subst l27 y27 z27
    obtain ⟨rfl, N27q, e27q⟩ := hQ27
    have N27 := Fr.app N26 N27q
    obtain ⟨fs, hr, hrun, hended, hW, hsame⟩ := X27.leave (v := some (.int (1 : Int32))) (fun h => by rw [Bd.returns] at h; cases h)
    refine ⟨_, _, pre7 _ ?_, hrun, hended, _, _, rfl, ?_, ⟨_, rfl⟩, hW, hsame.mono (by decide) (by decide)⟩
    · show Steps p.tables e below (s₁.setTop (mkF m 56 #[.val (.int p0), .val (.int p1), .val (.int p2), .val (.int p3), .val (.int p4), .val (.int p5), .val (.int (3 : Int32)), .val (.double (FP.l2d v0)), .second, .val (.double (FP.l2d v1)), .second, .val (.double (FP.l2d v2)), .second, .val (.double (FP.l2d v3)), .second, .val (.double (FP.l2d v4)), .second, .unset, .unset, .unset, .unset, .unset] [])) _
      refine XS.iload X0.here hx rfl (hb hby at_56) rfl ?_
      show Steps p.tables e below (s₁.setTop (mkF m 58 #[.val (.int p0), .val (.int p1), .val (.int p2), .val (.int p3), .val (.int p4), .val (.int p5), .val (.int (3 : Int32)), .val (.double (FP.l2d v0)), .second, .val (.double (FP.l2d v1)), .second, .val (.double (FP.l2d v2)), .second, .val (.double (FP.l2d v3)), .second, .val (.double (FP.l2d v4)), .second, .unset, .unset, .unset, .unset, .unset] [(.int (3 : Int32))])) _
      refine st20 _ ?_
      show Steps p.tables e below (T20.setTop (mkF m 60 #[.val (.int p0), .val (.int p1), .val (.int p2), .val (.int p3), .val (.int p4), .val (.int p5), .val (.int (3 : Int32)), .val (.double (FP.l2d v0)), .second, .val (.double (FP.l2d v1)), .second, .val (.double (FP.l2d v2)), .second, .val (.double (FP.l2d v3)), .second, .val (.double (FP.l2d v4)), .second, .unset, .unset, .unset, .unset, .unset] [(.ref b20)])) _
      refine XS.astore X20.here hx rfl (hb hby at_60) rfl rfl (l' := #[.val (.int p0), .val (.int p1), .val (.int p2), .val (.int p3), .val (.int p4), .val (.int p5), .val (.int (3 : Int32)), .val (.double (FP.l2d v0)), .second, .val (.double (FP.l2d v1)), .second, .val (.double (FP.l2d v2)), .second, .val (.double (FP.l2d v3)), .second, .val (.double (FP.l2d v4)), .second, .val (.ref b20), .unset, .unset, .unset, .unset]) rfl ?_
      show Steps p.tables e below (T20.setTop (mkF m 62 #[.val (.int p0), .val (.int p1), .val (.int p2), .val (.int p3), .val (.int p4), .val (.int p5), .val (.int (3 : Int32)), .val (.double (FP.l2d v0)), .second, .val (.double (FP.l2d v1)), .second, .val (.double (FP.l2d v2)), .second, .val (.double (FP.l2d v3)), .second, .val (.double (FP.l2d v4)), .second, .val (.ref b20), .unset, .unset, .unset, .unset] [])) _
      refine XS.aload X20.here hx rfl (hb hby at_62) rfl rfl ?_
      show Steps p.tables e below (T20.setTop (mkF m 64 #[.val (.int p0), .val (.int p1), .val (.int p2), .val (.int p3), .val (.int p4), .val (.int p5), .val (.int (3 : Int32)), .val (.double (FP.l2d v0)), .second, .val (.double (FP.l2d v1)), .second, .val (.double (FP.l2d v2)), .second, .val (.double (FP.l2d v3)), .second, .val (.double (FP.l2d v4)), .second, .val (.ref b20), .unset, .unset, .unset, .unset] [(.ref b20)])) _
      refine XS.iconst X20.here hx rfl (hb hby at_64) ?_
      show Steps p.tables e below (T20.setTop (mkF m 65 #[.val (.int p0), .val (.int p1), .val (.int p2), .val (.int p3), .val (.int p4), .val (.int p5), .val (.int (3 : Int32)), .val (.double (FP.l2d v0)), .second, .val (.double (FP.l2d v1)), .second, .val (.double (FP.l2d v2)), .second, .val (.double (FP.l2d v3)), .second, .val (.double (FP.l2d v4)), .second, .val (.ref b20), .unset, .unset, .unset, .unset] [(.int (0 : Int32)), (.ref b20)])) _
      refine XS.dload X20.here hx rfl (hb hby at_65) rfl ?_
      show Steps p.tables e below (T20.setTop (mkF m 67 #[.val (.int p0), .val (.int p1), .val (.int p2), .val (.int p3), .val (.int p4), .val (.int p5), .val (.int (3 : Int32)), .val (.double (FP.l2d v0)), .second, .val (.double (FP.l2d v1)), .second, .val (.double (FP.l2d v2)), .second, .val (.double (FP.l2d v3)), .second, .val (.double (FP.l2d v4)), .second, .val (.ref b20), .unset, .unset, .unset, .unset] [(.double (FP.l2d v0)), (.int (0 : Int32)), (.ref b20)])) _
      refine st22 _ ?_
      show Steps p.tables e below (T22.setTop (mkF m 68 #[.val (.int p0), .val (.int p1), .val (.int p2), .val (.int p3), .val (.int p4), .val (.int p5), .val (.int (3 : Int32)), .val (.double (FP.l2d v0)), .second, .val (.double (FP.l2d v1)), .second, .val (.double (FP.l2d v2)), .second, .val (.double (FP.l2d v3)), .second, .val (.double (FP.l2d v4)), .second, .val (.ref b20), .unset, .unset, .unset, .unset] [])) _
      refine XS.iload X22.here hx rfl (hb hby at_68) rfl ?_
      show Steps p.tables e below (T22.setTop (mkF m 70 #[.val (.int p0), .val (.int p1), .val (.int p2), .val (.int p3), .val (.int p4), .val (.int p5), .val (.int (3 : Int32)), .val (.double (FP.l2d v0)), .second, .val (.double (FP.l2d v1)), .second, .val (.double (FP.l2d v2)), .second, .val (.double (FP.l2d v3)), .second, .val (.double (FP.l2d v4)), .second, .val (.ref b20), .unset, .unset, .unset, .unset] [(.int (3 : Int32))])) _
      refine XS.iconst X22.here hx rfl (hb hby at_70) ?_
      show Steps p.tables e below (T22.setTop (mkF m 71 #[.val (.int p0), .val (.int p1), .val (.int p2), .val (.int p3), .val (.int p4), .val (.int p5), .val (.int (3 : Int32)), .val (.double (FP.l2d v0)), .second, .val (.double (FP.l2d v1)), .second, .val (.double (FP.l2d v2)), .second, .val (.double (FP.l2d v3)), .second, .val (.double (FP.l2d v4)), .second, .val (.ref b20), .unset, .unset, .unset, .unset] [(.int (1 : Int32)), (.int (3 : Int32))])) _
      refine XS.icmpNo X22.here hx rfl (hb hby at_71) rfl (tlt ((by decide) : (1 : Int32) < (3 : Int32))).2.2.2 ?_
      show Steps p.tables e below (T22.setTop (mkF m 74 #[.val (.int p0), .val (.int p1), .val (.int p2), .val (.int p3), .val (.int p4), .val (.int p5), .val (.int (3 : Int32)), .val (.double (FP.l2d v0)), .second, .val (.double (FP.l2d v1)), .second, .val (.double (FP.l2d v2)), .second, .val (.double (FP.l2d v3)), .second, .val (.double (FP.l2d v4)), .second, .val (.ref b20), .unset, .unset, .unset, .unset] [])) _
      refine XS.aload X22.here hx rfl (hb hby at_74) rfl rfl ?_
      show Steps p.tables e below (T22.setTop (mkF m 76 #[.val (.int p0), .val (.int p1), .val (.int p2), .val (.int p3), .val (.int p4), .val (.int p5), .val (.int (3 : Int32)), .val (.double (FP.l2d v0)), .second, .val (.double (FP.l2d v1)), .second, .val (.double (FP.l2d v2)), .second, .val (.double (FP.l2d v3)), .second, .val (.double (FP.l2d v4)), .second, .val (.ref b20), .unset, .unset, .unset, .unset] [(.ref b20)])) _
      refine XS.iconst X22.here hx rfl (hb hby at_76) ?_
      show Steps p.tables e below (T22.setTop (mkF m 77 #[.val (.int p0), .val (.int p1), .val (.int p2), .val (.int p3), .val (.int p4), .val (.int p5), .val (.int (3 : Int32)), .val (.double (FP.l2d v0)), .second, .val (.double (FP.l2d v1)), .second, .val (.double (FP.l2d v2)), .second, .val (.double (FP.l2d v3)), .second, .val (.double (FP.l2d v4)), .second, .val (.ref b20), .unset, .unset, .unset, .unset] [(.int (1 : Int32)), (.ref b20)])) _
      refine XS.dload X22.here hx rfl (hb hby at_77) rfl ?_
      show Steps p.tables e below (T22.setTop (mkF m 79 #[.val (.int p0), .val (.int p1), .val (.int p2), .val (.int p3), .val (.int p4), .val (.int p5), .val (.int (3 : Int32)), .val (.double (FP.l2d v0)), .second, .val (.double (FP.l2d v1)), .second, .val (.double (FP.l2d v2)), .second, .val (.double (FP.l2d v3)), .second, .val (.double (FP.l2d v4)), .second, .val (.ref b20), .unset, .unset, .unset, .unset] [(.double (FP.l2d v1)), (.int (1 : Int32)), (.ref b20)])) _
      refine st24 _ ?_
      show Steps p.tables e below (T24.setTop (mkF m 80 #[.val (.int p0), .val (.int p1), .val (.int p2), .val (.int p3), .val (.int p4), .val (.int p5), .val (.int (3 : Int32)), .val (.double (FP.l2d v0)), .second, .val (.double (FP.l2d v1)), .second, .val (.double (FP.l2d v2)), .second, .val (.double (FP.l2d v3)), .second, .val (.double (FP.l2d v4)), .second, .val (.ref b20), .unset, .unset, .unset, .unset] [])) _
      refine XS.iload X24.here hx rfl (hb hby at_80) rfl ?_
      show Steps p.tables e below (T24.setTop (mkF m 82 #[.val (.int p0), .val (.int p1), .val (.int p2), .val (.int p3), .val (.int p4), .val (.int p5), .val (.int (3 : Int32)), .val (.double (FP.l2d v0)), .second, .val (.double (FP.l2d v1)), .second, .val (.double (FP.l2d v2)), .second, .val (.double (FP.l2d v3)), .second, .val (.double (FP.l2d v4)), .second, .val (.ref b20), .unset, .unset, .unset, .unset] [(.int (3 : Int32))])) _
      refine XS.iconst X24.here hx rfl (hb hby at_82) ?_
      show Steps p.tables e below (T24.setTop (mkF m 83 #[.val (.int p0), .val (.int p1), .val (.int p2), .val (.int p3), .val (.int p4), .val (.int p5), .val (.int (3 : Int32)), .val (.double (FP.l2d v0)), .second, .val (.double (FP.l2d v1)), .second, .val (.double (FP.l2d v2)), .second, .val (.double (FP.l2d v3)), .second, .val (.double (FP.l2d v4)), .second, .val (.ref b20), .unset, .unset, .unset, .unset] [(.int (2 : Int32)), (.int (3 : Int32))])) _
      refine XS.icmpNo X24.here hx rfl (hb hby at_83) rfl (tlt ((by decide) : (2 : Int32) < (3 : Int32))).2.2.2 ?_
      show Steps p.tables e below (T24.setTop (mkF m 86 #[.val (.int p0), .val (.int p1), .val (.int p2), .val (.int p3), .val (.int p4), .val (.int p5), .val (.int (3 : Int32)), .val (.double (FP.l2d v0)), .second, .val (.double (FP.l2d v1)), .second, .val (.double (FP.l2d v2)), .second, .val (.double (FP.l2d v3)), .second, .val (.double (FP.l2d v4)), .second, .val (.ref b20), .unset, .unset, .unset, .unset] [])) _
      refine XS.aload X24.here hx rfl (hb hby at_86) rfl rfl ?_
      show Steps p.tables e below (T24.setTop (mkF m 88 #[.val (.int p0), .val (.int p1), .val (.int p2), .val (.int p3), .val (.int p4), .val (.int p5), .val (.int (3 : Int32)), .val (.double (FP.l2d v0)), .second, .val (.double (FP.l2d v1)), .second, .val (.double (FP.l2d v2)), .second, .val (.double (FP.l2d v3)), .second, .val (.double (FP.l2d v4)), .second, .val (.ref b20), .unset, .unset, .unset, .unset] [(.ref b20)])) _
      refine XS.iconst X24.here hx rfl (hb hby at_88) ?_
      show Steps p.tables e below (T24.setTop (mkF m 89 #[.val (.int p0), .val (.int p1), .val (.int p2), .val (.int p3), .val (.int p4), .val (.int p5), .val (.int (3 : Int32)), .val (.double (FP.l2d v0)), .second, .val (.double (FP.l2d v1)), .second, .val (.double (FP.l2d v2)), .second, .val (.double (FP.l2d v3)), .second, .val (.double (FP.l2d v4)), .second, .val (.ref b20), .unset, .unset, .unset, .unset] [(.int (2 : Int32)), (.ref b20)])) _
      refine XS.dload X24.here hx rfl (hb hby at_89) rfl ?_
      show Steps p.tables e below (T24.setTop (mkF m 91 #[.val (.int p0), .val (.int p1), .val (.int p2), .val (.int p3), .val (.int p4), .val (.int p5), .val (.int (3 : Int32)), .val (.double (FP.l2d v0)), .second, .val (.double (FP.l2d v1)), .second, .val (.double (FP.l2d v2)), .second, .val (.double (FP.l2d v3)), .second, .val (.double (FP.l2d v4)), .second, .val (.ref b20), .unset, .unset, .unset, .unset] [(.double (FP.l2d v2)), (.int (2 : Int32)), (.ref b20)])) _
      refine st26 _ ?_
      show Steps p.tables e below (T26.setTop (mkF m 92 #[.val (.int p0), .val (.int p1), .val (.int p2), .val (.int p3), .val (.int p4), .val (.int p5), .val (.int (3 : Int32)), .val (.double (FP.l2d v0)), .second, .val (.double (FP.l2d v1)), .second, .val (.double (FP.l2d v2)), .second, .val (.double (FP.l2d v3)), .second, .val (.double (FP.l2d v4)), .second, .val (.ref b20), .unset, .unset, .unset, .unset] [])) _
      refine XS.iload X26.here hx rfl (hb hby at_92) rfl ?_
      show Steps p.tables e below (T26.setTop (mkF m 94 #[.val (.int p0), .val (.int p1), .val (.int p2), .val (.int p3), .val (.int p4), .val (.int p5), .val (.int (3 : Int32)), .val (.double (FP.l2d v0)), .second, .val (.double (FP.l2d v1)), .second, .val (.double (FP.l2d v2)), .second, .val (.double (FP.l2d v3)), .second, .val (.double (FP.l2d v4)), .second, .val (.ref b20), .unset, .unset, .unset, .unset] [(.int (3 : Int32))])) _
      refine XS.iconst X26.here hx rfl (hb hby at_94) ?_
      show Steps p.tables e below (T26.setTop (mkF m 95 #[.val (.int p0), .val (.int p1), .val (.int p2), .val (.int p3), .val (.int p4), .val (.int p5), .val (.int (3 : Int32)), .val (.double (FP.l2d v0)), .second, .val (.double (FP.l2d v1)), .second, .val (.double (FP.l2d v2)), .second, .val (.double (FP.l2d v3)), .second, .val (.double (FP.l2d v4)), .second, .val (.ref b20), .unset, .unset, .unset, .unset] [(.int (3 : Int32)), (.int (3 : Int32))])) _
      refine XS.icmpYes X26.here hx rfl (pc0 := 95) (pc' := 104) rfl (hb hby at_95) rfl (flt ((by decide) : ¬ ((3 : Int32) < (3 : Int32)))).2.2.2 (by decide) (by decide) ?_
      show Steps p.tables e below (T26.setTop (mkF m 104 #[.val (.int p0), .val (.int p1), .val (.int p2), .val (.int p3), .val (.int p4), .val (.int p5), .val (.int (3 : Int32)), .val (.double (FP.l2d v0)), .second, .val (.double (FP.l2d v1)), .second, .val (.double (FP.l2d v2)), .second, .val (.double (FP.l2d v3)), .second, .val (.double (FP.l2d v4)), .second, .val (.ref b20), .unset, .unset, .unset, .unset] [])) _
      refine XS.iload X26.here hx rfl (hb hby at_104) rfl ?_
      show Steps p.tables e below (T26.setTop (mkF m 106 #[.val (.int p0), .val (.int p1), .val (.int p2), .val (.int p3), .val (.int p4), .val (.int p5), .val (.int (3 : Int32)), .val (.double (FP.l2d v0)), .second, .val (.double (FP.l2d v1)), .second, .val (.double (FP.l2d v2)), .second, .val (.double (FP.l2d v3)), .second, .val (.double (FP.l2d v4)), .second, .val (.ref b20), .unset, .unset, .unset, .unset] [(.int (3 : Int32))])) _
      refine XS.iconst X26.here hx rfl (hb hby at_106) ?_
      show Steps p.tables e below (T26.setTop (mkF m 107 #[.val (.int p0), .val (.int p1), .val (.int p2), .val (.int p3), .val (.int p4), .val (.int p5), .val (.int (3 : Int32)), .val (.double (FP.l2d v0)), .second, .val (.double (FP.l2d v1)), .second, .val (.double (FP.l2d v2)), .second, .val (.double (FP.l2d v3)), .second, .val (.double (FP.l2d v4)), .second, .val (.ref b20), .unset, .unset, .unset, .unset] [(.int (4 : Int32)), (.int (3 : Int32))])) _
      refine XS.icmpYes X26.here hx rfl (pc0 := 107) (pc' := 116) rfl (hb hby at_107) rfl (flt ((by decide) : ¬ ((4 : Int32) < (3 : Int32)))).2.2.2 (by decide) (by decide) ?_
      show Steps p.tables e below (T26.setTop (mkF m 116 #[.val (.int p0), .val (.int p1), .val (.int p2), .val (.int p3), .val (.int p4), .val (.int p5), .val (.int (3 : Int32)), .val (.double (FP.l2d v0)), .second, .val (.double (FP.l2d v1)), .second, .val (.double (FP.l2d v2)), .second, .val (.double (FP.l2d v3)), .second, .val (.double (FP.l2d v4)), .second, .val (.ref b20), .unset, .unset, .unset, .unset] [])) _
      refine XS.aload X26.here hx rfl (hb hby at_116) rfl rfl ?_
      show Steps p.tables e below (T26.setTop (mkF m 118 #[.val (.int p0), .val (.int p1), .val (.int p2), .val (.int p3), .val (.int p4), .val (.int p5), .val (.int (3 : Int32)), .val (.double (FP.l2d v0)), .second, .val (.double (FP.l2d v1)), .second, .val (.double (FP.l2d v2)), .second, .val (.double (FP.l2d v3)), .second, .val (.double (FP.l2d v4)), .second, .val (.ref b20), .unset, .unset, .unset, .unset] [(.ref b20)])) _
      refine st27 _ ?_
      show Steps p.tables e below (T27.setTop (mkF m 121 #[.val (.int p0), .val (.int p1), .val (.int p2), .val (.int p3), .val (.int p4), .val (.int p5), .val (.int (3 : Int32)), .val (.double (FP.l2d v0)), .second, .val (.double (FP.l2d v1)), .second, .val (.double (FP.l2d v2)), .second, .val (.double (FP.l2d v3)), .second, .val (.double (FP.l2d v4)), .second, .val (.ref b20), .unset, .unset, .unset, .unset] [(.double (FP.l2d v1))])) _
      refine XS.dstore X27.here hx rfl (hb hby at_121) rfl (l' := #[.val (.int p0), .val (.int p1), .val (.int p2), .val (.int p3), .val (.int p4), .val (.int p5), .val (.int (3 : Int32)), .val (.double (FP.l2d v0)), .second, .val (.double (FP.l2d v1)), .second, .val (.double (FP.l2d v2)), .second, .val (.double (FP.l2d v3)), .second, .val (.double (FP.l2d v4)), .second, .val (.ref b20), .val (.double (FP.l2d v1)), .second, .unset, .unset]) rfl ?_
      show Steps p.tables e below (T27.setTop (mkF m 123 #[.val (.int p0), .val (.int p1), .val (.int p2), .val (.int p3), .val (.int p4), .val (.int p5), .val (.int (3 : Int32)), .val (.double (FP.l2d v0)), .second, .val (.double (FP.l2d v1)), .second, .val (.double (FP.l2d v2)), .second, .val (.double (FP.l2d v3)), .second, .val (.double (FP.l2d v4)), .second, .val (.ref b20), .val (.double (FP.l2d v1)), .second, .unset, .unset] [])) _
      refine XS.iload X27.here hx rfl (hb hby at_123) rfl ?_
      show Steps p.tables e below (T27.setTop (mkF m 125 #[.val (.int p0), .val (.int p1), .val (.int p2), .val (.int p3), .val (.int p4), .val (.int p5), .val (.int (3 : Int32)), .val (.double (FP.l2d v0)), .second, .val (.double (FP.l2d v1)), .second, .val (.double (FP.l2d v2)), .second, .val (.double (FP.l2d v3)), .second, .val (.double (FP.l2d v4)), .second, .val (.ref b20), .val (.double (FP.l2d v1)), .second, .unset, .unset] [(.int (3 : Int32))])) _
      refine XS.iconst X27.here hx rfl (hb hby at_125) ?_
      show Steps p.tables e below (T27.setTop (mkF m 126 #[.val (.int p0), .val (.int p1), .val (.int p2), .val (.int p3), .val (.int p4), .val (.int p5), .val (.int (3 : Int32)), .val (.double (FP.l2d v0)), .second, .val (.double (FP.l2d v1)), .second, .val (.double (FP.l2d v2)), .second, .val (.double (FP.l2d v3)), .second, .val (.double (FP.l2d v4)), .second, .val (.ref b20), .val (.double (FP.l2d v1)), .second, .unset, .unset] [(.int (1 : Int32)), (.int (3 : Int32))])) _
      refine XS.icmpYes X27.here hx rfl (pc0 := 126) (pc' := 136) rfl (hb hby at_126) rfl (feq ((by decide) : ¬ ((3 : Int32) = (1 : Int32)))).2 (by decide) (by decide) ?_
      show Steps p.tables e below (T27.setTop (mkF m 136 #[.val (.int p0), .val (.int p1), .val (.int p2), .val (.int p3), .val (.int p4), .val (.int p5), .val (.int (3 : Int32)), .val (.double (FP.l2d v0)), .second, .val (.double (FP.l2d v1)), .second, .val (.double (FP.l2d v2)), .second, .val (.double (FP.l2d v3)), .second, .val (.double (FP.l2d v4)), .second, .val (.ref b20), .val (.double (FP.l2d v1)), .second, .unset, .unset] [])) _
      refine XS.iload X27.here hx rfl (hb hby at_136) rfl ?_
      show Steps p.tables e below (T27.setTop (mkF m 138 #[.val (.int p0), .val (.int p1), .val (.int p2), .val (.int p3), .val (.int p4), .val (.int p5), .val (.int (3 : Int32)), .val (.double (FP.l2d v0)), .second, .val (.double (FP.l2d v1)), .second, .val (.double (FP.l2d v2)), .second, .val (.double (FP.l2d v3)), .second, .val (.double (FP.l2d v4)), .second, .val (.ref b20), .val (.double (FP.l2d v1)), .second, .unset, .unset] [(.int (3 : Int32))])) _
      refine XS.iconst X27.here hx rfl (hb hby at_138) ?_
      show Steps p.tables e below (T27.setTop (mkF m 139 #[.val (.int p0), .val (.int p1), .val (.int p2), .val (.int p3), .val (.int p4), .val (.int p5), .val (.int (3 : Int32)), .val (.double (FP.l2d v0)), .second, .val (.double (FP.l2d v1)), .second, .val (.double (FP.l2d v2)), .second, .val (.double (FP.l2d v3)), .second, .val (.double (FP.l2d v4)), .second, .val (.ref b20), .val (.double (FP.l2d v1)), .second, .unset, .unset] [(.int (2 : Int32)), (.int (3 : Int32))])) _
      refine XS.icmpYes X27.here hx rfl (pc0 := 139) (pc' := 156) rfl (hb hby at_139) rfl (feq ((by decide) : ¬ ((3 : Int32) = (2 : Int32)))).2 (by decide) (by decide) ?_
      show Steps p.tables e below (T27.setTop (mkF m 156 #[.val (.int p0), .val (.int p1), .val (.int p2), .val (.int p3), .val (.int p4), .val (.int p5), .val (.int (3 : Int32)), .val (.double (FP.l2d v0)), .second, .val (.double (FP.l2d v1)), .second, .val (.double (FP.l2d v2)), .second, .val (.double (FP.l2d v3)), .second, .val (.double (FP.l2d v4)), .second, .val (.ref b20), .val (.double (FP.l2d v1)), .second, .unset, .unset] [])) _
      refine XS.iload X27.here hx rfl (hb hby at_156) rfl ?_
      show Steps p.tables e below (T27.setTop (mkF m 158 #[.val (.int p0), .val (.int p1), .val (.int p2), .val (.int p3), .val (.int p4), .val (.int p5), .val (.int (3 : Int32)), .val (.double (FP.l2d v0)), .second, .val (.double (FP.l2d v1)), .second, .val (.double (FP.l2d v2)), .second, .val (.double (FP.l2d v3)), .second, .val (.double (FP.l2d v4)), .second, .val (.ref b20), .val (.double (FP.l2d v1)), .second, .unset, .unset] [(.int (3 : Int32))])) _
      refine XS.iconst X27.here hx rfl (hb hby at_158) ?_
      show Steps p.tables e below (T27.setTop (mkF m 159 #[.val (.int p0), .val (.int p1), .val (.int p2), .val (.int p3), .val (.int p4), .val (.int p5), .val (.int (3 : Int32)), .val (.double (FP.l2d v0)), .second, .val (.double (FP.l2d v1)), .second, .val (.double (FP.l2d v2)), .second, .val (.double (FP.l2d v3)), .second, .val (.double (FP.l2d v4)), .second, .val (.ref b20), .val (.double (FP.l2d v1)), .second, .unset, .unset] [(.int (3 : Int32)), (.int (3 : Int32))])) _
      refine XS.icmpNo X27.here hx rfl (hb hby at_159) rfl (teq (rfl : (3 : Int32) = (3 : Int32))).2 ?_
      show Steps p.tables e below (T27.setTop (mkF m 162 #[.val (.int p0), .val (.int p1), .val (.int p2), .val (.int p3), .val (.int p4), .val (.int p5), .val (.int (3 : Int32)), .val (.double (FP.l2d v0)), .second, .val (.double (FP.l2d v1)), .second, .val (.double (FP.l2d v2)), .second, .val (.double (FP.l2d v3)), .second, .val (.double (FP.l2d v4)), .second, .val (.ref b20), .val (.double (FP.l2d v1)), .second, .unset, .unset] [])) _
      refine XS.dload X27.here hx rfl (hb hby at_162) rfl ?_
      show Steps p.tables e below (T27.setTop (mkF m 164 #[.val (.int p0), .val (.int p1), .val (.int p2), .val (.int p3), .val (.int p4), .val (.int p5), .val (.int (3 : Int32)), .val (.double (FP.l2d v0)), .second, .val (.double (FP.l2d v1)), .second, .val (.double (FP.l2d v2)), .second, .val (.double (FP.l2d v3)), .second, .val (.double (FP.l2d v4)), .second, .val (.ref b20), .val (.double (FP.l2d v1)), .second, .unset, .unset] [(.double (FP.l2d v1))])) _
      refine XS.dstore X27.here hx rfl (hb hby at_164) rfl (l' := #[.val (.int p0), .val (.int p1), .val (.int p2), .val (.int p3), .val (.int p4), .val (.int p5), .val (.int (3 : Int32)), .val (.double (FP.l2d v0)), .second, .val (.double (FP.l2d v1)), .second, .val (.double (FP.l2d v2)), .second, .val (.double (FP.l2d v3)), .second, .val (.double (FP.l2d v4)), .second, .val (.ref b20), .val (.double (FP.l2d v1)), .second, .val (.double (FP.l2d v1)), .second]) rfl ?_
      show Steps p.tables e below (T27.setTop (mkF m 166 #[.val (.int p0), .val (.int p1), .val (.int p2), .val (.int p3), .val (.int p4), .val (.int p5), .val (.int (3 : Int32)), .val (.double (FP.l2d v0)), .second, .val (.double (FP.l2d v1)), .second, .val (.double (FP.l2d v2)), .second, .val (.double (FP.l2d v3)), .second, .val (.double (FP.l2d v4)), .second, .val (.ref b20), .val (.double (FP.l2d v1)), .second, .val (.double (FP.l2d v1)), .second] [])) _
      refine XS.goto X27.here hx rfl (pc0 := 166) (pc' := 193) rfl (hb hby at_166) (by decide) (by decide) ?_
      show Steps p.tables e below (T27.setTop (mkF m 193 #[.val (.int p0), .val (.int p1), .val (.int p2), .val (.int p3), .val (.int p4), .val (.int p5), .val (.int (3 : Int32)), .val (.double (FP.l2d v0)), .second, .val (.double (FP.l2d v1)), .second, .val (.double (FP.l2d v2)), .second, .val (.double (FP.l2d v3)), .second, .val (.double (FP.l2d v4)), .second, .val (.ref b20), .val (.double (FP.l2d v1)), .second, .val (.double (FP.l2d v1)), .second] [])) _
      refine XS.dload X27.here hx rfl (hb hby at_193) rfl ?_
      show Steps p.tables e below (T27.setTop (mkF m 195 #[.val (.int p0), .val (.int p1), .val (.int p2), .val (.int p3), .val (.int p4), .val (.int p5), .val (.int (3 : Int32)), .val (.double (FP.l2d v0)), .second, .val (.double (FP.l2d v1)), .second, .val (.double (FP.l2d v2)), .second, .val (.double (FP.l2d v3)), .second, .val (.double (FP.l2d v4)), .second, .val (.ref b20), .val (.double (FP.l2d v1)), .second, .val (.double (FP.l2d v1)), .second] [(.double (FP.l2d v1))])) _
      refine XS.dload X27.here hx rfl (hb hby at_195) rfl ?_
      show Steps p.tables e below (T27.setTop (mkF m 197 #[.val (.int p0), .val (.int p1), .val (.int p2), .val (.int p3), .val (.int p4), .val (.int p5), .val (.int (3 : Int32)), .val (.double (FP.l2d v0)), .second, .val (.double (FP.l2d v1)), .second, .val (.double (FP.l2d v2)), .second, .val (.double (FP.l2d v3)), .second, .val (.double (FP.l2d v4)), .second, .val (.ref b20), .val (.double (FP.l2d v1)), .second, .val (.double (FP.l2d v1)), .second] [(.double (FP.l2d v1)), (.double (FP.l2d v1))])) _
      refine XS.dcmpS X27.here hx rfl (hb hby at_197) rfl (dcmpV_self (nn_w rfl) _) ?_
      show Steps p.tables e below (T27.setTop (mkF m 198 #[.val (.int p0), .val (.int p1), .val (.int p2), .val (.int p3), .val (.int p4), .val (.int p5), .val (.int (3 : Int32)), .val (.double (FP.l2d v0)), .second, .val (.double (FP.l2d v1)), .second, .val (.double (FP.l2d v2)), .second, .val (.double (FP.l2d v3)), .second, .val (.double (FP.l2d v4)), .second, .val (.ref b20), .val (.double (FP.l2d v1)), .second, .val (.double (FP.l2d v1)), .second] [(.int (0 : Int32))])) _
      refine XS.ifNo X27.here hx rfl (hb hby at_198) rfl ((if0 _ _).trans (teq (rfl : (0 : Int32) = (0 : Int32))).2) ?_
      show Steps p.tables e below (T27.setTop (mkF m 201 #[.val (.int p0), .val (.int p1), .val (.int p2), .val (.int p3), .val (.int p4), .val (.int p5), .val (.int (3 : Int32)), .val (.double (FP.l2d v0)), .second, .val (.double (FP.l2d v1)), .second, .val (.double (FP.l2d v2)), .second, .val (.double (FP.l2d v3)), .second, .val (.double (FP.l2d v4)), .second, .val (.ref b20), .val (.double (FP.l2d v1)), .second, .val (.double (FP.l2d v1)), .second] [])) _
      refine XS.iconst X27.here hx rfl (hb hby at_201) ?_
      show Steps p.tables e below (T27.setTop (mkF m 202 #[.val (.int p0), .val (.int p1), .val (.int p2), .val (.int p3), .val (.int p4), .val (.int p5), .val (.int (3 : Int32)), .val (.double (FP.l2d v0)), .second, .val (.double (FP.l2d v1)), .second, .val (.double (FP.l2d v2)), .second, .val (.double (FP.l2d v3)), .second, .val (.double (FP.l2d v4)), .second, .val (.ref b20), .val (.double (FP.l2d v1)), .second, .val (.double (FP.l2d v1)), .second] [(.int (1 : Int32))])) _
      refine XS.goto X27.here hx rfl (pc0 := 202) (pc' := 206) rfl (hb hby at_202) (by decide) (by decide) ?_
      show Steps p.tables e below (T27.setTop (mkF m 206 #[.val (.int p0), .val (.int p1), .val (.int p2), .val (.int p3), .val (.int p4), .val (.int p5), .val (.int (3 : Int32)), .val (.double (FP.l2d v0)), .second, .val (.double (FP.l2d v1)), .second, .val (.double (FP.l2d v2)), .second, .val (.double (FP.l2d v3)), .second, .val (.double (FP.l2d v4)), .second, .val (.ref b20), .val (.double (FP.l2d v1)), .second, .val (.double (FP.l2d v1)), .second] [(.int (1 : Int32))])) _
      exact retN X27 hx (t := .boolean) Bd.returns (by simp) (hb hby at_206) hr
    · show rm0Q Z p0 p1 p2 p3 p4 p5 h0 n0 _ T27.heap _
      rw [e27q]
      exact ⟨rfl, N27⟩
  · obtain ⟨T29, h29, k29, X29, e29, E29, A29, st29⟩ := newP X0 hx hZ (hw _ (List.mem_of_getElem? (i := 2) rfl)) e0 (g := (mkF m 58 #[.val (.int p0), .val (.int p1), .val (.int p2), .val (.int p3), .val (.int p4), .val (.int p5), .val (.int (4 : Int32)), .val (.double (FP.l2d v0)), .second, .val (.double (FP.l2d v1)), .second, .val (.double (FP.l2d v2)), .second, .val (.double (FP.l2d v3)), .second, .val (.double (FP.l2d v4)), .second, .unset, .unset, .unset, .unset, .unset] [(.int (4 : Int32))])) rfl (hb hby at_58) rfl (by decide) (cap := 4) (by decide) (by decide) (by decide) (by decide)
    obtain ⟨b29, g29⟩ : ∃ z, z = h0.size := ⟨_, rfl⟩
    rw [← g29] at A29 st29
    have g_b29 : n0 ≤ b29 := Nat.le_trans Z0 (Nat.le_of_eq g29.symm)
    have sz_b29 : h0.size ≤ b29 := Nat.le_trans (Keep.refl h0 []).1 (Nat.le_of_eq g29.symm)
    have V_b29 : Arv Z h29 b29 k29 .double (4 : Int32) [(.double (FP.l2d 0)), (.double (FP.l2d 0)), (.double (FP.l2d 0)), (.double (FP.l2d 0))] (.double (FP.l2d 0)) := (Arv.newD A29 (by decide)).pad (pad_rep [] (.double (FP.l2d 0)) 4)
    obtain ⟨cl30, Ar30, q30, S30, N30', H30, G30⟩ := id V_b29
    have hin30 : ¬ ((0 : Int32) < 0 ∨ cl30.slots.size ≤ ((0 : Int32)).toNatClampNeg) := inb_of S30 ⟨by decide, by decide⟩
    obtain ⟨T31, h31, X31, e31, W31, st31⟩ := stD X29 hx hZ e29 Ar30 (j := (0 : Int32)) hin30 (g := (mkF m 67 #[.val (.int p0), .val (.int p1), .val (.int p2), .val (.int p3), .val (.int p4), .val (.int p5), .val (.int (4 : Int32)), .val (.double (FP.l2d v0)), .second, .val (.double (FP.l2d v1)), .second, .val (.double (FP.l2d v2)), .second, .val (.double (FP.l2d v3)), .second, .val (.double (FP.l2d v4)), .second, .val (.ref b29), .unset, .unset, .unset, .unset] [(.double (FP.l2d v0)), (.int (0 : Int32)), (.ref b29)])) rfl rfl (hb hby at_67)
    have Vs31 : Arv Z h31 b29 k29 .double (4 : Int32) [(.double (FP.l2d v0)), (.double (FP.l2d 0)), (.double (FP.l2d 0)), (.double (FP.l2d 0))] (.double (FP.l2d 0)) := Arv.set Ar30 q30 S30 N30' H30 G30 rfl W31 0 rfl (Nat.le_of_ble_eq_true rfl)
    have N31 := Fr.snoc X31 N0 g_b29
    obtain ⟨cl32, Ar32, q32, S32, N32', H32, G32⟩ := id Vs31
    have hin32 : ¬ ((1 : Int32) < 0 ∨ cl32.slots.size ≤ ((1 : Int32)).toNatClampNeg) := inb_of S32 ⟨by decide, by decide⟩
    obtain ⟨T33, h33, X33, e33, W33, st33⟩ := stD X31 hx hZ e31 Ar32 (j := (1 : Int32)) hin32 (g := (mkF m 79 #[.val (.int p0), .val (.int p1), .val (.int p2), .val (.int p3), .val (.int p4), .val (.int p5), .val (.int (4 : Int32)), .val (.double (FP.l2d v0)), .second, .val (.double (FP.l2d v1)), .second, .val (.double (FP.l2d v2)), .second, .val (.double (FP.l2d v3)), .second, .val (.double (FP.l2d v4)), .second, .val (.ref b29), .unset, .unset, .unset, .unset] [(.double (FP.l2d v1)), (.int (1 : Int32)), (.ref b29)])) rfl rfl (hb hby at_79)
    have Vs33 : Arv Z h33 b29 k29 .double (4 : Int32) [(.double (FP.l2d v0)), (.double (FP.l2d v1)), (.double (FP.l2d 0)), (.double (FP.l2d 0))] (.double (FP.l2d 0)) := Arv.set Ar32 q32 S32 N32' H32 G32 rfl W33 1 rfl (Nat.le_of_ble_eq_true rfl)
    have N33 := Fr.snoc X33 N31 g_b29
    obtain ⟨cl34, Ar34, q34, S34, N34', H34, G34⟩ := id Vs33
    have hin34 : ¬ ((2 : Int32) < 0 ∨ cl34.slots.size ≤ ((2 : Int32)).toNatClampNeg) := inb_of S34 ⟨by decide, by decide⟩
    obtain ⟨T35, h35, X35, e35, W35, st35⟩ := stD X33 hx hZ e33 Ar34 (j := (2 : Int32)) hin34 (g := (mkF m 91 #[.val (.int p0), .val (.int p1), .val (.int p2), .val (.int p3), .val (.int p4), .val (.int p5), .val (.int (4 : Int32)), .val (.double (FP.l2d v0)), .second, .val (.double (FP.l2d v1)), .second, .val (.double (FP.l2d v2)), .second, .val (.double (FP.l2d v3)), .second, .val (.double (FP.l2d v4)), .second, .val (.ref b29), .unset, .unset, .unset, .unset] [(.double (FP.l2d v2)), (.int (2 : Int32)), (.ref b29)])) rfl rfl (hb hby at_91)
    have Vs35 : Arv Z h35 b29 k29 .double (4 : Int32) [(.double (FP.l2d v0)), (.double (FP.l2d v1)), (.double (FP.l2d v2)), (.double (FP.l2d 0))] (.double (FP.l2d 0)) := Arv.set Ar34 q34 S34 N34' H34 G34 rfl W35 2 rfl (Nat.le_of_ble_eq_true rfl)
    have N35 := Fr.snoc X35 N33 g_b29
    obtain ⟨cl36, Ar36, q36, S36, N36', H36, G36⟩ := id Vs35
    have hin36 : ¬ ((3 : Int32) < 0 ∨ cl36.slots.size ≤ ((3 : Int32)).toNatClampNeg) := inb_of S36 ⟨by decide, by decide⟩
    obtain ⟨T37, h37, X37, e37, W37, st37⟩ := stD X35 hx hZ e35 Ar36 (j := (3 : Int32)) hin36 (g := (mkF m 103 #[.val (.int p0), .val (.int p1), .val (.int p2), .val (.int p3), .val (.int p4), .val (.int p5), .val (.int (4 : Int32)), .val (.double (FP.l2d v0)), .second, .val (.double (FP.l2d v1)), .second, .val (.double (FP.l2d v2)), .second, .val (.double (FP.l2d v3)), .second, .val (.double (FP.l2d v4)), .second, .val (.ref b29), .unset, .unset, .unset, .unset] [(.double (FP.l2d v3)), (.int (3 : Int32)), (.ref b29)])) rfl rfl (hb hby at_103)
    have Vs37 : Arv Z h37 b29 k29 .double (4 : Int32) [(.double (FP.l2d v0)), (.double (FP.l2d v1)), (.double (FP.l2d v2)), (.double (FP.l2d v3))] (.double (FP.l2d 0)) := Arv.set Ar36 q36 S36 N36' H36 G36 rfl W37 3 rfl (Nat.le_of_ble_eq_true rfl)
    have N37 := Fr.snoc X37 N35 g_b29
    have Zz_39 : n0 ≤ h37.size := (Nat.le_trans (Nat.le_trans (Nat.le_trans (Nat.le_trans (Nat.le_trans Z0 E29.1) (Keep.of_wr W31).1) (Keep.of_wr W33).1) (Keep.of_wr W35).1) (Keep.of_wr W37).1)
    obtain ⟨_, _, ⟨T38, L38, k38, n38⟩, -, X38, ⟨Lc38, hQ38, l38, y38, z38⟩, st38⟩ := Jvm.LawKit.callS X37 hx (y := (⟨"com/example/gyre/bench/Handoff", "median", "([D)D"⟩ : MethodName)) hown (mvT hZ (hw _ (List.mem_of_getElem? (i := 3) rfl))) (mvT hZ (hw _ (List.mem_of_getElem? (i := 4) rfl))) (mvT hZ (hw _ (List.mem_of_getElem? (i := 5) rfl))) (mvT hZ (hw _ (List.mem_of_getElem? (i := 6) rfl))) (by decide) (backOf (W := 0) (rm1_4 l Z aw hw [] b29 k29 (FP.l2d v0) (FP.l2d v1) (FP.l2d v2) (FP.l2d v3) h37 n0 Zz_39 Vs37 (own_nn1 R1 R2) (own_nn2 R1 R2)) hZ (hw _ (List.mem_of_getElem? (i := 6) rfl)) (hw _ (List.mem_of_getElem? (i := 5) rfl)) (by decide) (by decide)) (g := (mkF m 118 #[.val (.int p0), .val (.int p1), .val (.int p2), .val (.int p3), .val (.int p4), .val (.int p5), .val (.int (4 : Int32)), .val (.double (FP.l2d v0)), .second, .val (.double (FP.l2d v1)), .second, .val (.double (FP.l2d v2)), .second, .val (.double (FP.l2d v3)), .second, .val (.double (FP.l2d v4)), .second, .val (.ref b29), .unset, .unset, .unset, .unset] [(.ref b29)])) rfl (by rw [hml]; rfl) (argsL := [(.ref b29)]) (rest := []) (lenOf pd_rm0_0 rfl) rfl (by show 2 * 0 + _ ≤ _; exact Nat.le_of_eq rfl) (hb hby at_118) (fun _ _ => ⟨rfl, e37, (by decide : 1 + 0 ≤ _), (by decide : 4 + 0 ≤ _)⟩)
    dsimp only [Pt.U, Pt.locs, Pt.cells, Pt.slots] at X38 l38 y38 z38 st38 hQ38
    subst l38 y38 z38
    obtain ⟨rfl, N38q, e38q⟩ := hQ38
    have N38 := Fr.app N37 N38q
    obtain ⟨fs, hr, hrun, hended, hW, hsame⟩ := X38.leave (v := some (.int (1 : Int32))) (fun h => by rw [Bd.returns] at h; cases h)
    refine ⟨_, _, pre7 _ ?_, hrun, hended, _, _, rfl, ?_, ⟨_, rfl⟩, hW, hsame.mono (by decide) (by decide)⟩
    · show Steps p.tables e below (s₁.setTop (mkF m 56 #[.val (.int p0), .val (.int p1), .val (.int p2), .val (.int p3), .val (.int p4), .val (.int p5), .val (.int (4 : Int32)), .val (.double (FP.l2d v0)), .second, .val (.double (FP.l2d v1)), .second, .val (.double (FP.l2d v2)), .second, .val (.double (FP.l2d v3)), .second, .val (.double (FP.l2d v4)), .second, .unset, .unset, .unset, .unset, .unset] [])) _
      refine XS.iload X0.here hx rfl (hb hby at_56) rfl ?_
      show Steps p.tables e below (s₁.setTop (mkF m 58 #[.val (.int p0), .val (.int p1), .val (.int p2), .val (.int p3), .val (.int p4), .val (.int p5), .val (.int (4 : Int32)), .val (.double (FP.l2d v0)), .second, .val (.double (FP.l2d v1)), .second, .val (.double (FP.l2d v2)), .second, .val (.double (FP.l2d v3)), .second, .val (.double (FP.l2d v4)), .second, .unset, .unset, .unset, .unset, .unset] [(.int (4 : Int32))])) _
      refine st29 _ ?_
      show Steps p.tables e below (T29.setTop (mkF m 60 #[.val (.int p0), .val (.int p1), .val (.int p2), .val (.int p3), .val (.int p4), .val (.int p5), .val (.int (4 : Int32)), .val (.double (FP.l2d v0)), .second, .val (.double (FP.l2d v1)), .second, .val (.double (FP.l2d v2)), .second, .val (.double (FP.l2d v3)), .second, .val (.double (FP.l2d v4)), .second, .unset, .unset, .unset, .unset, .unset] [(.ref b29)])) _
      refine XS.astore X29.here hx rfl (hb hby at_60) rfl rfl (l' := #[.val (.int p0), .val (.int p1), .val (.int p2), .val (.int p3), .val (.int p4), .val (.int p5), .val (.int (4 : Int32)), .val (.double (FP.l2d v0)), .second, .val (.double (FP.l2d v1)), .second, .val (.double (FP.l2d v2)), .second, .val (.double (FP.l2d v3)), .second, .val (.double (FP.l2d v4)), .second, .val (.ref b29), .unset, .unset, .unset, .unset]) rfl ?_
      show Steps p.tables e below (T29.setTop (mkF m 62 #[.val (.int p0), .val (.int p1), .val (.int p2), .val (.int p3), .val (.int p4), .val (.int p5), .val (.int (4 : Int32)), .val (.double (FP.l2d v0)), .second, .val (.double (FP.l2d v1)), .second, .val (.double (FP.l2d v2)), .second, .val (.double (FP.l2d v3)), .second, .val (.double (FP.l2d v4)), .second, .val (.ref b29), .unset, .unset, .unset, .unset] [])) _
      refine XS.aload X29.here hx rfl (hb hby at_62) rfl rfl ?_
      show Steps p.tables e below (T29.setTop (mkF m 64 #[.val (.int p0), .val (.int p1), .val (.int p2), .val (.int p3), .val (.int p4), .val (.int p5), .val (.int (4 : Int32)), .val (.double (FP.l2d v0)), .second, .val (.double (FP.l2d v1)), .second, .val (.double (FP.l2d v2)), .second, .val (.double (FP.l2d v3)), .second, .val (.double (FP.l2d v4)), .second, .val (.ref b29), .unset, .unset, .unset, .unset] [(.ref b29)])) _
      refine XS.iconst X29.here hx rfl (hb hby at_64) ?_
      show Steps p.tables e below (T29.setTop (mkF m 65 #[.val (.int p0), .val (.int p1), .val (.int p2), .val (.int p3), .val (.int p4), .val (.int p5), .val (.int (4 : Int32)), .val (.double (FP.l2d v0)), .second, .val (.double (FP.l2d v1)), .second, .val (.double (FP.l2d v2)), .second, .val (.double (FP.l2d v3)), .second, .val (.double (FP.l2d v4)), .second, .val (.ref b29), .unset, .unset, .unset, .unset] [(.int (0 : Int32)), (.ref b29)])) _
      refine XS.dload X29.here hx rfl (hb hby at_65) rfl ?_
      show Steps p.tables e below (T29.setTop (mkF m 67 #[.val (.int p0), .val (.int p1), .val (.int p2), .val (.int p3), .val (.int p4), .val (.int p5), .val (.int (4 : Int32)), .val (.double (FP.l2d v0)), .second, .val (.double (FP.l2d v1)), .second, .val (.double (FP.l2d v2)), .second, .val (.double (FP.l2d v3)), .second, .val (.double (FP.l2d v4)), .second, .val (.ref b29), .unset, .unset, .unset, .unset] [(.double (FP.l2d v0)), (.int (0 : Int32)), (.ref b29)])) _
      refine st31 _ ?_
      show Steps p.tables e below (T31.setTop (mkF m 68 #[.val (.int p0), .val (.int p1), .val (.int p2), .val (.int p3), .val (.int p4), .val (.int p5), .val (.int (4 : Int32)), .val (.double (FP.l2d v0)), .second, .val (.double (FP.l2d v1)), .second, .val (.double (FP.l2d v2)), .second, .val (.double (FP.l2d v3)), .second, .val (.double (FP.l2d v4)), .second, .val (.ref b29), .unset, .unset, .unset, .unset] [])) _
      refine XS.iload X31.here hx rfl (hb hby at_68) rfl ?_
      show Steps p.tables e below (T31.setTop (mkF m 70 #[.val (.int p0), .val (.int p1), .val (.int p2), .val (.int p3), .val (.int p4), .val (.int p5), .val (.int (4 : Int32)), .val (.double (FP.l2d v0)), .second, .val (.double (FP.l2d v1)), .second, .val (.double (FP.l2d v2)), .second, .val (.double (FP.l2d v3)), .second, .val (.double (FP.l2d v4)), .second, .val (.ref b29), .unset, .unset, .unset, .unset] [(.int (4 : Int32))])) _
      refine XS.iconst X31.here hx rfl (hb hby at_70) ?_
      show Steps p.tables e below (T31.setTop (mkF m 71 #[.val (.int p0), .val (.int p1), .val (.int p2), .val (.int p3), .val (.int p4), .val (.int p5), .val (.int (4 : Int32)), .val (.double (FP.l2d v0)), .second, .val (.double (FP.l2d v1)), .second, .val (.double (FP.l2d v2)), .second, .val (.double (FP.l2d v3)), .second, .val (.double (FP.l2d v4)), .second, .val (.ref b29), .unset, .unset, .unset, .unset] [(.int (1 : Int32)), (.int (4 : Int32))])) _
      refine XS.icmpNo X31.here hx rfl (hb hby at_71) rfl (tlt ((by decide) : (1 : Int32) < (4 : Int32))).2.2.2 ?_
      show Steps p.tables e below (T31.setTop (mkF m 74 #[.val (.int p0), .val (.int p1), .val (.int p2), .val (.int p3), .val (.int p4), .val (.int p5), .val (.int (4 : Int32)), .val (.double (FP.l2d v0)), .second, .val (.double (FP.l2d v1)), .second, .val (.double (FP.l2d v2)), .second, .val (.double (FP.l2d v3)), .second, .val (.double (FP.l2d v4)), .second, .val (.ref b29), .unset, .unset, .unset, .unset] [])) _
      refine XS.aload X31.here hx rfl (hb hby at_74) rfl rfl ?_
      show Steps p.tables e below (T31.setTop (mkF m 76 #[.val (.int p0), .val (.int p1), .val (.int p2), .val (.int p3), .val (.int p4), .val (.int p5), .val (.int (4 : Int32)), .val (.double (FP.l2d v0)), .second, .val (.double (FP.l2d v1)), .second, .val (.double (FP.l2d v2)), .second, .val (.double (FP.l2d v3)), .second, .val (.double (FP.l2d v4)), .second, .val (.ref b29), .unset, .unset, .unset, .unset] [(.ref b29)])) _
      refine XS.iconst X31.here hx rfl (hb hby at_76) ?_
      show Steps p.tables e below (T31.setTop (mkF m 77 #[.val (.int p0), .val (.int p1), .val (.int p2), .val (.int p3), .val (.int p4), .val (.int p5), .val (.int (4 : Int32)), .val (.double (FP.l2d v0)), .second, .val (.double (FP.l2d v1)), .second, .val (.double (FP.l2d v2)), .second, .val (.double (FP.l2d v3)), .second, .val (.double (FP.l2d v4)), .second, .val (.ref b29), .unset, .unset, .unset, .unset] [(.int (1 : Int32)), (.ref b29)])) _
      refine XS.dload X31.here hx rfl (hb hby at_77) rfl ?_
      show Steps p.tables e below (T31.setTop (mkF m 79 #[.val (.int p0), .val (.int p1), .val (.int p2), .val (.int p3), .val (.int p4), .val (.int p5), .val (.int (4 : Int32)), .val (.double (FP.l2d v0)), .second, .val (.double (FP.l2d v1)), .second, .val (.double (FP.l2d v2)), .second, .val (.double (FP.l2d v3)), .second, .val (.double (FP.l2d v4)), .second, .val (.ref b29), .unset, .unset, .unset, .unset] [(.double (FP.l2d v1)), (.int (1 : Int32)), (.ref b29)])) _
      refine st33 _ ?_
      show Steps p.tables e below (T33.setTop (mkF m 80 #[.val (.int p0), .val (.int p1), .val (.int p2), .val (.int p3), .val (.int p4), .val (.int p5), .val (.int (4 : Int32)), .val (.double (FP.l2d v0)), .second, .val (.double (FP.l2d v1)), .second, .val (.double (FP.l2d v2)), .second, .val (.double (FP.l2d v3)), .second, .val (.double (FP.l2d v4)), .second, .val (.ref b29), .unset, .unset, .unset, .unset] [])) _
      refine XS.iload X33.here hx rfl (hb hby at_80) rfl ?_
      show Steps p.tables e below (T33.setTop (mkF m 82 #[.val (.int p0), .val (.int p1), .val (.int p2), .val (.int p3), .val (.int p4), .val (.int p5), .val (.int (4 : Int32)), .val (.double (FP.l2d v0)), .second, .val (.double (FP.l2d v1)), .second, .val (.double (FP.l2d v2)), .second, .val (.double (FP.l2d v3)), .second, .val (.double (FP.l2d v4)), .second, .val (.ref b29), .unset, .unset, .unset, .unset] [(.int (4 : Int32))])) _
      refine XS.iconst X33.here hx rfl (hb hby at_82) ?_
      show Steps p.tables e below (T33.setTop (mkF m 83 #[.val (.int p0), .val (.int p1), .val (.int p2), .val (.int p3), .val (.int p4), .val (.int p5), .val (.int (4 : Int32)), .val (.double (FP.l2d v0)), .second, .val (.double (FP.l2d v1)), .second, .val (.double (FP.l2d v2)), .second, .val (.double (FP.l2d v3)), .second, .val (.double (FP.l2d v4)), .second, .val (.ref b29), .unset, .unset, .unset, .unset] [(.int (2 : Int32)), (.int (4 : Int32))])) _
      refine XS.icmpNo X33.here hx rfl (hb hby at_83) rfl (tlt ((by decide) : (2 : Int32) < (4 : Int32))).2.2.2 ?_
      show Steps p.tables e below (T33.setTop (mkF m 86 #[.val (.int p0), .val (.int p1), .val (.int p2), .val (.int p3), .val (.int p4), .val (.int p5), .val (.int (4 : Int32)), .val (.double (FP.l2d v0)), .second, .val (.double (FP.l2d v1)), .second, .val (.double (FP.l2d v2)), .second, .val (.double (FP.l2d v3)), .second, .val (.double (FP.l2d v4)), .second, .val (.ref b29), .unset, .unset, .unset, .unset] [])) _
      refine XS.aload X33.here hx rfl (hb hby at_86) rfl rfl ?_
      show Steps p.tables e below (T33.setTop (mkF m 88 #[.val (.int p0), .val (.int p1), .val (.int p2), .val (.int p3), .val (.int p4), .val (.int p5), .val (.int (4 : Int32)), .val (.double (FP.l2d v0)), .second, .val (.double (FP.l2d v1)), .second, .val (.double (FP.l2d v2)), .second, .val (.double (FP.l2d v3)), .second, .val (.double (FP.l2d v4)), .second, .val (.ref b29), .unset, .unset, .unset, .unset] [(.ref b29)])) _
      refine XS.iconst X33.here hx rfl (hb hby at_88) ?_
      show Steps p.tables e below (T33.setTop (mkF m 89 #[.val (.int p0), .val (.int p1), .val (.int p2), .val (.int p3), .val (.int p4), .val (.int p5), .val (.int (4 : Int32)), .val (.double (FP.l2d v0)), .second, .val (.double (FP.l2d v1)), .second, .val (.double (FP.l2d v2)), .second, .val (.double (FP.l2d v3)), .second, .val (.double (FP.l2d v4)), .second, .val (.ref b29), .unset, .unset, .unset, .unset] [(.int (2 : Int32)), (.ref b29)])) _
      refine XS.dload X33.here hx rfl (hb hby at_89) rfl ?_
      show Steps p.tables e below (T33.setTop (mkF m 91 #[.val (.int p0), .val (.int p1), .val (.int p2), .val (.int p3), .val (.int p4), .val (.int p5), .val (.int (4 : Int32)), .val (.double (FP.l2d v0)), .second, .val (.double (FP.l2d v1)), .second, .val (.double (FP.l2d v2)), .second, .val (.double (FP.l2d v3)), .second, .val (.double (FP.l2d v4)), .second, .val (.ref b29), .unset, .unset, .unset, .unset] [(.double (FP.l2d v2)), (.int (2 : Int32)), (.ref b29)])) _
      refine st35 _ ?_
      show Steps p.tables e below (T35.setTop (mkF m 92 #[.val (.int p0), .val (.int p1), .val (.int p2), .val (.int p3), .val (.int p4), .val (.int p5), .val (.int (4 : Int32)), .val (.double (FP.l2d v0)), .second, .val (.double (FP.l2d v1)), .second, .val (.double (FP.l2d v2)), .second, .val (.double (FP.l2d v3)), .second, .val (.double (FP.l2d v4)), .second, .val (.ref b29), .unset, .unset, .unset, .unset] [])) _
      refine XS.iload X35.here hx rfl (hb hby at_92) rfl ?_
      show Steps p.tables e below (T35.setTop (mkF m 94 #[.val (.int p0), .val (.int p1), .val (.int p2), .val (.int p3), .val (.int p4), .val (.int p5), .val (.int (4 : Int32)), .val (.double (FP.l2d v0)), .second, .val (.double (FP.l2d v1)), .second, .val (.double (FP.l2d v2)), .second, .val (.double (FP.l2d v3)), .second, .val (.double (FP.l2d v4)), .second, .val (.ref b29), .unset, .unset, .unset, .unset] [(.int (4 : Int32))])) _
      refine XS.iconst X35.here hx rfl (hb hby at_94) ?_
      show Steps p.tables e below (T35.setTop (mkF m 95 #[.val (.int p0), .val (.int p1), .val (.int p2), .val (.int p3), .val (.int p4), .val (.int p5), .val (.int (4 : Int32)), .val (.double (FP.l2d v0)), .second, .val (.double (FP.l2d v1)), .second, .val (.double (FP.l2d v2)), .second, .val (.double (FP.l2d v3)), .second, .val (.double (FP.l2d v4)), .second, .val (.ref b29), .unset, .unset, .unset, .unset] [(.int (3 : Int32)), (.int (4 : Int32))])) _
      refine XS.icmpNo X35.here hx rfl (hb hby at_95) rfl (tlt ((by decide) : (3 : Int32) < (4 : Int32))).2.2.2 ?_
      show Steps p.tables e below (T35.setTop (mkF m 98 #[.val (.int p0), .val (.int p1), .val (.int p2), .val (.int p3), .val (.int p4), .val (.int p5), .val (.int (4 : Int32)), .val (.double (FP.l2d v0)), .second, .val (.double (FP.l2d v1)), .second, .val (.double (FP.l2d v2)), .second, .val (.double (FP.l2d v3)), .second, .val (.double (FP.l2d v4)), .second, .val (.ref b29), .unset, .unset, .unset, .unset] [])) _
      refine XS.aload X35.here hx rfl (hb hby at_98) rfl rfl ?_
      show Steps p.tables e below (T35.setTop (mkF m 100 #[.val (.int p0), .val (.int p1), .val (.int p2), .val (.int p3), .val (.int p4), .val (.int p5), .val (.int (4 : Int32)), .val (.double (FP.l2d v0)), .second, .val (.double (FP.l2d v1)), .second, .val (.double (FP.l2d v2)), .second, .val (.double (FP.l2d v3)), .second, .val (.double (FP.l2d v4)), .second, .val (.ref b29), .unset, .unset, .unset, .unset] [(.ref b29)])) _
      refine XS.iconst X35.here hx rfl (hb hby at_100) ?_
      show Steps p.tables e below (T35.setTop (mkF m 101 #[.val (.int p0), .val (.int p1), .val (.int p2), .val (.int p3), .val (.int p4), .val (.int p5), .val (.int (4 : Int32)), .val (.double (FP.l2d v0)), .second, .val (.double (FP.l2d v1)), .second, .val (.double (FP.l2d v2)), .second, .val (.double (FP.l2d v3)), .second, .val (.double (FP.l2d v4)), .second, .val (.ref b29), .unset, .unset, .unset, .unset] [(.int (3 : Int32)), (.ref b29)])) _
      refine XS.dload X35.here hx rfl (hb hby at_101) rfl ?_
      show Steps p.tables e below (T35.setTop (mkF m 103 #[.val (.int p0), .val (.int p1), .val (.int p2), .val (.int p3), .val (.int p4), .val (.int p5), .val (.int (4 : Int32)), .val (.double (FP.l2d v0)), .second, .val (.double (FP.l2d v1)), .second, .val (.double (FP.l2d v2)), .second, .val (.double (FP.l2d v3)), .second, .val (.double (FP.l2d v4)), .second, .val (.ref b29), .unset, .unset, .unset, .unset] [(.double (FP.l2d v3)), (.int (3 : Int32)), (.ref b29)])) _
      refine st37 _ ?_
      show Steps p.tables e below (T37.setTop (mkF m 104 #[.val (.int p0), .val (.int p1), .val (.int p2), .val (.int p3), .val (.int p4), .val (.int p5), .val (.int (4 : Int32)), .val (.double (FP.l2d v0)), .second, .val (.double (FP.l2d v1)), .second, .val (.double (FP.l2d v2)), .second, .val (.double (FP.l2d v3)), .second, .val (.double (FP.l2d v4)), .second, .val (.ref b29), .unset, .unset, .unset, .unset] [])) _
      refine XS.iload X37.here hx rfl (hb hby at_104) rfl ?_
      show Steps p.tables e below (T37.setTop (mkF m 106 #[.val (.int p0), .val (.int p1), .val (.int p2), .val (.int p3), .val (.int p4), .val (.int p5), .val (.int (4 : Int32)), .val (.double (FP.l2d v0)), .second, .val (.double (FP.l2d v1)), .second, .val (.double (FP.l2d v2)), .second, .val (.double (FP.l2d v3)), .second, .val (.double (FP.l2d v4)), .second, .val (.ref b29), .unset, .unset, .unset, .unset] [(.int (4 : Int32))])) _
      refine XS.iconst X37.here hx rfl (hb hby at_106) ?_
      show Steps p.tables e below (T37.setTop (mkF m 107 #[.val (.int p0), .val (.int p1), .val (.int p2), .val (.int p3), .val (.int p4), .val (.int p5), .val (.int (4 : Int32)), .val (.double (FP.l2d v0)), .second, .val (.double (FP.l2d v1)), .second, .val (.double (FP.l2d v2)), .second, .val (.double (FP.l2d v3)), .second, .val (.double (FP.l2d v4)), .second, .val (.ref b29), .unset, .unset, .unset, .unset] [(.int (4 : Int32)), (.int (4 : Int32))])) _
      refine XS.icmpYes X37.here hx rfl (pc0 := 107) (pc' := 116) rfl (hb hby at_107) rfl (flt ((by decide) : ¬ ((4 : Int32) < (4 : Int32)))).2.2.2 (by decide) (by decide) ?_
      show Steps p.tables e below (T37.setTop (mkF m 116 #[.val (.int p0), .val (.int p1), .val (.int p2), .val (.int p3), .val (.int p4), .val (.int p5), .val (.int (4 : Int32)), .val (.double (FP.l2d v0)), .second, .val (.double (FP.l2d v1)), .second, .val (.double (FP.l2d v2)), .second, .val (.double (FP.l2d v3)), .second, .val (.double (FP.l2d v4)), .second, .val (.ref b29), .unset, .unset, .unset, .unset] [])) _
      refine XS.aload X37.here hx rfl (hb hby at_116) rfl rfl ?_
      show Steps p.tables e below (T37.setTop (mkF m 118 #[.val (.int p0), .val (.int p1), .val (.int p2), .val (.int p3), .val (.int p4), .val (.int p5), .val (.int (4 : Int32)), .val (.double (FP.l2d v0)), .second, .val (.double (FP.l2d v1)), .second, .val (.double (FP.l2d v2)), .second, .val (.double (FP.l2d v3)), .second, .val (.double (FP.l2d v4)), .second, .val (.ref b29), .unset, .unset, .unset, .unset] [(.ref b29)])) _
      refine st38 _ ?_
      show Steps p.tables e below (T38.setTop (mkF m 121 #[.val (.int p0), .val (.int p1), .val (.int p2), .val (.int p3), .val (.int p4), .val (.int p5), .val (.int (4 : Int32)), .val (.double (FP.l2d v0)), .second, .val (.double (FP.l2d v1)), .second, .val (.double (FP.l2d v2)), .second, .val (.double (FP.l2d v3)), .second, .val (.double (FP.l2d v4)), .second, .val (.ref b29), .unset, .unset, .unset, .unset] [(.double (FP.ddiv (FP.dadd (FP.l2d v1) (FP.l2d v2)) (4611686018427387904 : UInt64)))])) _
      refine XS.dstore X38.here hx rfl (hb hby at_121) rfl (l' := #[.val (.int p0), .val (.int p1), .val (.int p2), .val (.int p3), .val (.int p4), .val (.int p5), .val (.int (4 : Int32)), .val (.double (FP.l2d v0)), .second, .val (.double (FP.l2d v1)), .second, .val (.double (FP.l2d v2)), .second, .val (.double (FP.l2d v3)), .second, .val (.double (FP.l2d v4)), .second, .val (.ref b29), .val (.double (FP.ddiv (FP.dadd (FP.l2d v1) (FP.l2d v2)) (4611686018427387904 : UInt64))), .second, .unset, .unset]) rfl ?_
      show Steps p.tables e below (T38.setTop (mkF m 123 #[.val (.int p0), .val (.int p1), .val (.int p2), .val (.int p3), .val (.int p4), .val (.int p5), .val (.int (4 : Int32)), .val (.double (FP.l2d v0)), .second, .val (.double (FP.l2d v1)), .second, .val (.double (FP.l2d v2)), .second, .val (.double (FP.l2d v3)), .second, .val (.double (FP.l2d v4)), .second, .val (.ref b29), .val (.double (FP.ddiv (FP.dadd (FP.l2d v1) (FP.l2d v2)) (4611686018427387904 : UInt64))), .second, .unset, .unset] [])) _
      refine XS.iload X38.here hx rfl (hb hby at_123) rfl ?_
      show Steps p.tables e below (T38.setTop (mkF m 125 #[.val (.int p0), .val (.int p1), .val (.int p2), .val (.int p3), .val (.int p4), .val (.int p5), .val (.int (4 : Int32)), .val (.double (FP.l2d v0)), .second, .val (.double (FP.l2d v1)), .second, .val (.double (FP.l2d v2)), .second, .val (.double (FP.l2d v3)), .second, .val (.double (FP.l2d v4)), .second, .val (.ref b29), .val (.double (FP.ddiv (FP.dadd (FP.l2d v1) (FP.l2d v2)) (4611686018427387904 : UInt64))), .second, .unset, .unset] [(.int (4 : Int32))])) _
      refine XS.iconst X38.here hx rfl (hb hby at_125) ?_
      show Steps p.tables e below (T38.setTop (mkF m 126 #[.val (.int p0), .val (.int p1), .val (.int p2), .val (.int p3), .val (.int p4), .val (.int p5), .val (.int (4 : Int32)), .val (.double (FP.l2d v0)), .second, .val (.double (FP.l2d v1)), .second, .val (.double (FP.l2d v2)), .second, .val (.double (FP.l2d v3)), .second, .val (.double (FP.l2d v4)), .second, .val (.ref b29), .val (.double (FP.ddiv (FP.dadd (FP.l2d v1) (FP.l2d v2)) (4611686018427387904 : UInt64))), .second, .unset, .unset] [(.int (1 : Int32)), (.int (4 : Int32))])) _
      refine XS.icmpYes X38.here hx rfl (pc0 := 126) (pc' := 136) rfl (hb hby at_126) rfl (feq ((by decide) : ¬ ((4 : Int32) = (1 : Int32)))).2 (by decide) (by decide) ?_
      show Steps p.tables e below (T38.setTop (mkF m 136 #[.val (.int p0), .val (.int p1), .val (.int p2), .val (.int p3), .val (.int p4), .val (.int p5), .val (.int (4 : Int32)), .val (.double (FP.l2d v0)), .second, .val (.double (FP.l2d v1)), .second, .val (.double (FP.l2d v2)), .second, .val (.double (FP.l2d v3)), .second, .val (.double (FP.l2d v4)), .second, .val (.ref b29), .val (.double (FP.ddiv (FP.dadd (FP.l2d v1) (FP.l2d v2)) (4611686018427387904 : UInt64))), .second, .unset, .unset] [])) _
      refine XS.iload X38.here hx rfl (hb hby at_136) rfl ?_
      show Steps p.tables e below (T38.setTop (mkF m 138 #[.val (.int p0), .val (.int p1), .val (.int p2), .val (.int p3), .val (.int p4), .val (.int p5), .val (.int (4 : Int32)), .val (.double (FP.l2d v0)), .second, .val (.double (FP.l2d v1)), .second, .val (.double (FP.l2d v2)), .second, .val (.double (FP.l2d v3)), .second, .val (.double (FP.l2d v4)), .second, .val (.ref b29), .val (.double (FP.ddiv (FP.dadd (FP.l2d v1) (FP.l2d v2)) (4611686018427387904 : UInt64))), .second, .unset, .unset] [(.int (4 : Int32))])) _
      refine XS.iconst X38.here hx rfl (hb hby at_138) ?_
      show Steps p.tables e below (T38.setTop (mkF m 139 #[.val (.int p0), .val (.int p1), .val (.int p2), .val (.int p3), .val (.int p4), .val (.int p5), .val (.int (4 : Int32)), .val (.double (FP.l2d v0)), .second, .val (.double (FP.l2d v1)), .second, .val (.double (FP.l2d v2)), .second, .val (.double (FP.l2d v3)), .second, .val (.double (FP.l2d v4)), .second, .val (.ref b29), .val (.double (FP.ddiv (FP.dadd (FP.l2d v1) (FP.l2d v2)) (4611686018427387904 : UInt64))), .second, .unset, .unset] [(.int (2 : Int32)), (.int (4 : Int32))])) _
      refine XS.icmpYes X38.here hx rfl (pc0 := 139) (pc' := 156) rfl (hb hby at_139) rfl (feq ((by decide) : ¬ ((4 : Int32) = (2 : Int32)))).2 (by decide) (by decide) ?_
      show Steps p.tables e below (T38.setTop (mkF m 156 #[.val (.int p0), .val (.int p1), .val (.int p2), .val (.int p3), .val (.int p4), .val (.int p5), .val (.int (4 : Int32)), .val (.double (FP.l2d v0)), .second, .val (.double (FP.l2d v1)), .second, .val (.double (FP.l2d v2)), .second, .val (.double (FP.l2d v3)), .second, .val (.double (FP.l2d v4)), .second, .val (.ref b29), .val (.double (FP.ddiv (FP.dadd (FP.l2d v1) (FP.l2d v2)) (4611686018427387904 : UInt64))), .second, .unset, .unset] [])) _
      refine XS.iload X38.here hx rfl (hb hby at_156) rfl ?_
      show Steps p.tables e below (T38.setTop (mkF m 158 #[.val (.int p0), .val (.int p1), .val (.int p2), .val (.int p3), .val (.int p4), .val (.int p5), .val (.int (4 : Int32)), .val (.double (FP.l2d v0)), .second, .val (.double (FP.l2d v1)), .second, .val (.double (FP.l2d v2)), .second, .val (.double (FP.l2d v3)), .second, .val (.double (FP.l2d v4)), .second, .val (.ref b29), .val (.double (FP.ddiv (FP.dadd (FP.l2d v1) (FP.l2d v2)) (4611686018427387904 : UInt64))), .second, .unset, .unset] [(.int (4 : Int32))])) _
      refine XS.iconst X38.here hx rfl (hb hby at_158) ?_
      show Steps p.tables e below (T38.setTop (mkF m 159 #[.val (.int p0), .val (.int p1), .val (.int p2), .val (.int p3), .val (.int p4), .val (.int p5), .val (.int (4 : Int32)), .val (.double (FP.l2d v0)), .second, .val (.double (FP.l2d v1)), .second, .val (.double (FP.l2d v2)), .second, .val (.double (FP.l2d v3)), .second, .val (.double (FP.l2d v4)), .second, .val (.ref b29), .val (.double (FP.ddiv (FP.dadd (FP.l2d v1) (FP.l2d v2)) (4611686018427387904 : UInt64))), .second, .unset, .unset] [(.int (3 : Int32)), (.int (4 : Int32))])) _
      refine XS.icmpYes X38.here hx rfl (pc0 := 159) (pc' := 169) rfl (hb hby at_159) rfl (feq ((by decide) : ¬ ((4 : Int32) = (3 : Int32)))).2 (by decide) (by decide) ?_
      show Steps p.tables e below (T38.setTop (mkF m 169 #[.val (.int p0), .val (.int p1), .val (.int p2), .val (.int p3), .val (.int p4), .val (.int p5), .val (.int (4 : Int32)), .val (.double (FP.l2d v0)), .second, .val (.double (FP.l2d v1)), .second, .val (.double (FP.l2d v2)), .second, .val (.double (FP.l2d v3)), .second, .val (.double (FP.l2d v4)), .second, .val (.ref b29), .val (.double (FP.ddiv (FP.dadd (FP.l2d v1) (FP.l2d v2)) (4611686018427387904 : UInt64))), .second, .unset, .unset] [])) _
      refine XS.iload X38.here hx rfl (hb hby at_169) rfl ?_
      show Steps p.tables e below (T38.setTop (mkF m 171 #[.val (.int p0), .val (.int p1), .val (.int p2), .val (.int p3), .val (.int p4), .val (.int p5), .val (.int (4 : Int32)), .val (.double (FP.l2d v0)), .second, .val (.double (FP.l2d v1)), .second, .val (.double (FP.l2d v2)), .second, .val (.double (FP.l2d v3)), .second, .val (.double (FP.l2d v4)), .second, .val (.ref b29), .val (.double (FP.ddiv (FP.dadd (FP.l2d v1) (FP.l2d v2)) (4611686018427387904 : UInt64))), .second, .unset, .unset] [(.int (4 : Int32))])) _
      refine XS.iconst X38.here hx rfl (hb hby at_171) ?_
      show Steps p.tables e below (T38.setTop (mkF m 172 #[.val (.int p0), .val (.int p1), .val (.int p2), .val (.int p3), .val (.int p4), .val (.int p5), .val (.int (4 : Int32)), .val (.double (FP.l2d v0)), .second, .val (.double (FP.l2d v1)), .second, .val (.double (FP.l2d v2)), .second, .val (.double (FP.l2d v3)), .second, .val (.double (FP.l2d v4)), .second, .val (.ref b29), .val (.double (FP.ddiv (FP.dadd (FP.l2d v1) (FP.l2d v2)) (4611686018427387904 : UInt64))), .second, .unset, .unset] [(.int (4 : Int32)), (.int (4 : Int32))])) _
      refine XS.icmpNo X38.here hx rfl (hb hby at_172) rfl (teq (rfl : (4 : Int32) = (4 : Int32))).2 ?_
      show Steps p.tables e below (T38.setTop (mkF m 175 #[.val (.int p0), .val (.int p1), .val (.int p2), .val (.int p3), .val (.int p4), .val (.int p5), .val (.int (4 : Int32)), .val (.double (FP.l2d v0)), .second, .val (.double (FP.l2d v1)), .second, .val (.double (FP.l2d v2)), .second, .val (.double (FP.l2d v3)), .second, .val (.double (FP.l2d v4)), .second, .val (.ref b29), .val (.double (FP.ddiv (FP.dadd (FP.l2d v1) (FP.l2d v2)) (4611686018427387904 : UInt64))), .second, .unset, .unset] [])) _
      refine XS.dload X38.here hx rfl (hb hby at_175) rfl ?_
      show Steps p.tables e below (T38.setTop (mkF m 177 #[.val (.int p0), .val (.int p1), .val (.int p2), .val (.int p3), .val (.int p4), .val (.int p5), .val (.int (4 : Int32)), .val (.double (FP.l2d v0)), .second, .val (.double (FP.l2d v1)), .second, .val (.double (FP.l2d v2)), .second, .val (.double (FP.l2d v3)), .second, .val (.double (FP.l2d v4)), .second, .val (.ref b29), .val (.double (FP.ddiv (FP.dadd (FP.l2d v1) (FP.l2d v2)) (4611686018427387904 : UInt64))), .second, .unset, .unset] [(.double (FP.l2d v1))])) _
      refine XS.dload X38.here hx rfl (hb hby at_177) rfl ?_
      show Steps p.tables e below (T38.setTop (mkF m 179 #[.val (.int p0), .val (.int p1), .val (.int p2), .val (.int p3), .val (.int p4), .val (.int p5), .val (.int (4 : Int32)), .val (.double (FP.l2d v0)), .second, .val (.double (FP.l2d v1)), .second, .val (.double (FP.l2d v2)), .second, .val (.double (FP.l2d v3)), .second, .val (.double (FP.l2d v4)), .second, .val (.ref b29), .val (.double (FP.ddiv (FP.dadd (FP.l2d v1) (FP.l2d v2)) (4611686018427387904 : UInt64))), .second, .unset, .unset] [(.double (FP.l2d v2)), (.double (FP.l2d v1))])) _
      refine XS.daddS X38.here hx rfl (hb hby at_179) rfl (own_nn1 R1 R2) rfl ?_
      show Steps p.tables e below (T38.setTop (mkF m 180 #[.val (.int p0), .val (.int p1), .val (.int p2), .val (.int p3), .val (.int p4), .val (.int p5), .val (.int (4 : Int32)), .val (.double (FP.l2d v0)), .second, .val (.double (FP.l2d v1)), .second, .val (.double (FP.l2d v2)), .second, .val (.double (FP.l2d v3)), .second, .val (.double (FP.l2d v4)), .second, .val (.ref b29), .val (.double (FP.ddiv (FP.dadd (FP.l2d v1) (FP.l2d v2)) (4611686018427387904 : UInt64))), .second, .unset, .unset] [(.double (FP.dadd (FP.l2d v1) (FP.l2d v2)))])) _
      refine X38.ldc2DoubleC hx hown (mvT hZ (hw _ (List.mem_of_getElem? (i := 8) rfl))) (g := (mkF m 180 #[.val (.int p0), .val (.int p1), .val (.int p2), .val (.int p3), .val (.int p4), .val (.int p5), .val (.int (4 : Int32)), .val (.double (FP.l2d v0)), .second, .val (.double (FP.l2d v1)), .second, .val (.double (FP.l2d v2)), .second, .val (.double (FP.l2d v3)), .second, .val (.double (FP.l2d v4)), .second, .val (.ref b29), .val (.double (FP.ddiv (FP.dadd (FP.l2d v1) (FP.l2d v2)) (4611686018427387904 : UInt64))), .second, .unset, .unset] [(.double (FP.dadd (FP.l2d v1) (FP.l2d v2)))])) rfl (hb hby at_180) _ ?_
      show Steps p.tables e below (T38.setTop (mkF m 183 #[.val (.int p0), .val (.int p1), .val (.int p2), .val (.int p3), .val (.int p4), .val (.int p5), .val (.int (4 : Int32)), .val (.double (FP.l2d v0)), .second, .val (.double (FP.l2d v1)), .second, .val (.double (FP.l2d v2)), .second, .val (.double (FP.l2d v3)), .second, .val (.double (FP.l2d v4)), .second, .val (.ref b29), .val (.double (FP.ddiv (FP.dadd (FP.l2d v1) (FP.l2d v2)) (4611686018427387904 : UInt64))), .second, .unset, .unset] [(.double (4611686018427387904 : UInt64)), (.double (FP.dadd (FP.l2d v1) (FP.l2d v2)))])) _
      refine XS.ddivS X38.here hx rfl (hb hby at_183) rfl (own_nn2 R1 R2) rfl ?_
      show Steps p.tables e below (T38.setTop (mkF m 184 #[.val (.int p0), .val (.int p1), .val (.int p2), .val (.int p3), .val (.int p4), .val (.int p5), .val (.int (4 : Int32)), .val (.double (FP.l2d v0)), .second, .val (.double (FP.l2d v1)), .second, .val (.double (FP.l2d v2)), .second, .val (.double (FP.l2d v3)), .second, .val (.double (FP.l2d v4)), .second, .val (.ref b29), .val (.double (FP.ddiv (FP.dadd (FP.l2d v1) (FP.l2d v2)) (4611686018427387904 : UInt64))), .second, .unset, .unset] [(.double (FP.ddiv (FP.dadd (FP.l2d v1) (FP.l2d v2)) (4611686018427387904 : UInt64)))])) _
      refine XS.dstore X38.here hx rfl (hb hby at_184) rfl (l' := #[.val (.int p0), .val (.int p1), .val (.int p2), .val (.int p3), .val (.int p4), .val (.int p5), .val (.int (4 : Int32)), .val (.double (FP.l2d v0)), .second, .val (.double (FP.l2d v1)), .second, .val (.double (FP.l2d v2)), .second, .val (.double (FP.l2d v3)), .second, .val (.double (FP.l2d v4)), .second, .val (.ref b29), .val (.double (FP.ddiv (FP.dadd (FP.l2d v1) (FP.l2d v2)) (4611686018427387904 : UInt64))), .second, .val (.double (FP.ddiv (FP.dadd (FP.l2d v1) (FP.l2d v2)) (4611686018427387904 : UInt64))), .second]) rfl ?_
      show Steps p.tables e below (T38.setTop (mkF m 186 #[.val (.int p0), .val (.int p1), .val (.int p2), .val (.int p3), .val (.int p4), .val (.int p5), .val (.int (4 : Int32)), .val (.double (FP.l2d v0)), .second, .val (.double (FP.l2d v1)), .second, .val (.double (FP.l2d v2)), .second, .val (.double (FP.l2d v3)), .second, .val (.double (FP.l2d v4)), .second, .val (.ref b29), .val (.double (FP.ddiv (FP.dadd (FP.l2d v1) (FP.l2d v2)) (4611686018427387904 : UInt64))), .second, .val (.double (FP.ddiv (FP.dadd (FP.l2d v1) (FP.l2d v2)) (4611686018427387904 : UInt64))), .second] [])) _
      refine XS.goto X38.here hx rfl (pc0 := 186) (pc' := 193) rfl (hb hby at_186) (by decide) (by decide) ?_
      show Steps p.tables e below (T38.setTop (mkF m 193 #[.val (.int p0), .val (.int p1), .val (.int p2), .val (.int p3), .val (.int p4), .val (.int p5), .val (.int (4 : Int32)), .val (.double (FP.l2d v0)), .second, .val (.double (FP.l2d v1)), .second, .val (.double (FP.l2d v2)), .second, .val (.double (FP.l2d v3)), .second, .val (.double (FP.l2d v4)), .second, .val (.ref b29), .val (.double (FP.ddiv (FP.dadd (FP.l2d v1) (FP.l2d v2)) (4611686018427387904 : UInt64))), .second, .val (.double (FP.ddiv (FP.dadd (FP.l2d v1) (FP.l2d v2)) (4611686018427387904 : UInt64))), .second] [])) _
      refine XS.dload X38.here hx rfl (hb hby at_193) rfl ?_
      show Steps p.tables e below (T38.setTop (mkF m 195 #[.val (.int p0), .val (.int p1), .val (.int p2), .val (.int p3), .val (.int p4), .val (.int p5), .val (.int (4 : Int32)), .val (.double (FP.l2d v0)), .second, .val (.double (FP.l2d v1)), .second, .val (.double (FP.l2d v2)), .second, .val (.double (FP.l2d v3)), .second, .val (.double (FP.l2d v4)), .second, .val (.ref b29), .val (.double (FP.ddiv (FP.dadd (FP.l2d v1) (FP.l2d v2)) (4611686018427387904 : UInt64))), .second, .val (.double (FP.ddiv (FP.dadd (FP.l2d v1) (FP.l2d v2)) (4611686018427387904 : UInt64))), .second] [(.double (FP.ddiv (FP.dadd (FP.l2d v1) (FP.l2d v2)) (4611686018427387904 : UInt64)))])) _
      refine XS.dload X38.here hx rfl (hb hby at_195) rfl ?_
      show Steps p.tables e below (T38.setTop (mkF m 197 #[.val (.int p0), .val (.int p1), .val (.int p2), .val (.int p3), .val (.int p4), .val (.int p5), .val (.int (4 : Int32)), .val (.double (FP.l2d v0)), .second, .val (.double (FP.l2d v1)), .second, .val (.double (FP.l2d v2)), .second, .val (.double (FP.l2d v3)), .second, .val (.double (FP.l2d v4)), .second, .val (.ref b29), .val (.double (FP.ddiv (FP.dadd (FP.l2d v1) (FP.l2d v2)) (4611686018427387904 : UInt64))), .second, .val (.double (FP.ddiv (FP.dadd (FP.l2d v1) (FP.l2d v2)) (4611686018427387904 : UInt64))), .second] [(.double (FP.ddiv (FP.dadd (FP.l2d v1) (FP.l2d v2)) (4611686018427387904 : UInt64))), (.double (FP.ddiv (FP.dadd (FP.l2d v1) (FP.l2d v2)) (4611686018427387904 : UInt64)))])) _
      refine XS.dcmpS X38.here hx rfl (hb hby at_197) rfl (dcmpV_self (own_nn2 R1 R2) _) ?_
      show Steps p.tables e below (T38.setTop (mkF m 198 #[.val (.int p0), .val (.int p1), .val (.int p2), .val (.int p3), .val (.int p4), .val (.int p5), .val (.int (4 : Int32)), .val (.double (FP.l2d v0)), .second, .val (.double (FP.l2d v1)), .second, .val (.double (FP.l2d v2)), .second, .val (.double (FP.l2d v3)), .second, .val (.double (FP.l2d v4)), .second, .val (.ref b29), .val (.double (FP.ddiv (FP.dadd (FP.l2d v1) (FP.l2d v2)) (4611686018427387904 : UInt64))), .second, .val (.double (FP.ddiv (FP.dadd (FP.l2d v1) (FP.l2d v2)) (4611686018427387904 : UInt64))), .second] [(.int (0 : Int32))])) _
      refine XS.ifNo X38.here hx rfl (hb hby at_198) rfl ((if0 _ _).trans (teq (rfl : (0 : Int32) = (0 : Int32))).2) ?_
      show Steps p.tables e below (T38.setTop (mkF m 201 #[.val (.int p0), .val (.int p1), .val (.int p2), .val (.int p3), .val (.int p4), .val (.int p5), .val (.int (4 : Int32)), .val (.double (FP.l2d v0)), .second, .val (.double (FP.l2d v1)), .second, .val (.double (FP.l2d v2)), .second, .val (.double (FP.l2d v3)), .second, .val (.double (FP.l2d v4)), .second, .val (.ref b29), .val (.double (FP.ddiv (FP.dadd (FP.l2d v1) (FP.l2d v2)) (4611686018427387904 : UInt64))), .second, .val (.double (FP.ddiv (FP.dadd (FP.l2d v1) (FP.l2d v2)) (4611686018427387904 : UInt64))), .second] [])) _
      refine XS.iconst X38.here hx rfl (hb hby at_201) ?_
      show Steps p.tables e below (T38.setTop (mkF m 202 #[.val (.int p0), .val (.int p1), .val (.int p2), .val (.int p3), .val (.int p4), .val (.int p5), .val (.int (4 : Int32)), .val (.double (FP.l2d v0)), .second, .val (.double (FP.l2d v1)), .second, .val (.double (FP.l2d v2)), .second, .val (.double (FP.l2d v3)), .second, .val (.double (FP.l2d v4)), .second, .val (.ref b29), .val (.double (FP.ddiv (FP.dadd (FP.l2d v1) (FP.l2d v2)) (4611686018427387904 : UInt64))), .second, .val (.double (FP.ddiv (FP.dadd (FP.l2d v1) (FP.l2d v2)) (4611686018427387904 : UInt64))), .second] [(.int (1 : Int32))])) _
      refine XS.goto X38.here hx rfl (pc0 := 202) (pc' := 206) rfl (hb hby at_202) (by decide) (by decide) ?_
      show Steps p.tables e below (T38.setTop (mkF m 206 #[.val (.int p0), .val (.int p1), .val (.int p2), .val (.int p3), .val (.int p4), .val (.int p5), .val (.int (4 : Int32)), .val (.double (FP.l2d v0)), .second, .val (.double (FP.l2d v1)), .second, .val (.double (FP.l2d v2)), .second, .val (.double (FP.l2d v3)), .second, .val (.double (FP.l2d v4)), .second, .val (.ref b29), .val (.double (FP.ddiv (FP.dadd (FP.l2d v1) (FP.l2d v2)) (4611686018427387904 : UInt64))), .second, .val (.double (FP.ddiv (FP.dadd (FP.l2d v1) (FP.l2d v2)) (4611686018427387904 : UInt64))), .second] [(.int (1 : Int32))])) _
      exact retN X38 hx (t := .boolean) Bd.returns (by simp) (hb hby at_206) hr
    · show rm0Q Z p0 p1 p2 p3 p4 p5 h0 n0 _ T38.heap _
      rw [e38q]
      exact ⟨rfl, N38⟩
  · obtain ⟨T40, h40, k40, X40, e40, E40, A40, st40⟩ := newP X0 hx hZ (hw _ (List.mem_of_getElem? (i := 2) rfl)) e0 (g := (mkF m 58 #[.val (.int p0), .val (.int p1), .val (.int p2), .val (.int p3), .val (.int p4), .val (.int p5), .val (.int (5 : Int32)), .val (.double (FP.l2d v0)), .second, .val (.double (FP.l2d v1)), .second, .val (.double (FP.l2d v2)), .second, .val (.double (FP.l2d v3)), .second, .val (.double (FP.l2d v4)), .second, .unset, .unset, .unset, .unset, .unset] [(.int (5 : Int32))])) rfl (hb hby at_58) rfl (by decide) (cap := 5) (by decide) (by decide) (by decide) (by decide)
    obtain ⟨b40, g40⟩ : ∃ z, z = h0.size := ⟨_, rfl⟩
    rw [← g40] at A40 st40
    have g_b40 : n0 ≤ b40 := Nat.le_trans Z0 (Nat.le_of_eq g40.symm)
    have sz_b40 : h0.size ≤ b40 := Nat.le_trans (Keep.refl h0 []).1 (Nat.le_of_eq g40.symm)
    have V_b40 : Arv Z h40 b40 k40 .double (5 : Int32) [(.double (FP.l2d 0)), (.double (FP.l2d 0)), (.double (FP.l2d 0)), (.double (FP.l2d 0)), (.double (FP.l2d 0))] (.double (FP.l2d 0)) := (Arv.newD A40 (by decide)).pad (pad_rep [] (.double (FP.l2d 0)) 5)
    obtain ⟨cl41, Ar41, q41, S41, N41', H41, G41⟩ := id V_b40
    have hin41 : ¬ ((0 : Int32) < 0 ∨ cl41.slots.size ≤ ((0 : Int32)).toNatClampNeg) := inb_of S41 ⟨by decide, by decide⟩
    obtain ⟨T42, h42, X42, e42, W42, st42⟩ := stD X40 hx hZ e40 Ar41 (j := (0 : Int32)) hin41 (g := (mkF m 67 #[.val (.int p0), .val (.int p1), .val (.int p2), .val (.int p3), .val (.int p4), .val (.int p5), .val (.int (5 : Int32)), .val (.double (FP.l2d v0)), .second, .val (.double (FP.l2d v1)), .second, .val (.double (FP.l2d v2)), .second, .val (.double (FP.l2d v3)), .second, .val (.double (FP.l2d v4)), .second, .val (.ref b40), .unset, .unset, .unset, .unset] [(.double (FP.l2d v0)), (.int (0 : Int32)), (.ref b40)])) rfl rfl (hb hby at_67)
    have Vs42 : Arv Z h42 b40 k40 .double (5 : Int32) [(.double (FP.l2d v0)), (.double (FP.l2d 0)), (.double (FP.l2d 0)), (.double (FP.l2d 0)), (.double (FP.l2d 0))] (.double (FP.l2d 0)) := Arv.set Ar41 q41 S41 N41' H41 G41 rfl W42 0 rfl (Nat.le_of_ble_eq_true rfl)
    have N42 := Fr.snoc X42 N0 g_b40
    obtain ⟨cl43, Ar43, q43, S43, N43', H43, G43⟩ := id Vs42
    have hin43 : ¬ ((1 : Int32) < 0 ∨ cl43.slots.size ≤ ((1 : Int32)).toNatClampNeg) := inb_of S43 ⟨by decide, by decide⟩
    obtain ⟨T44, h44, X44, e44, W44, st44⟩ := stD X42 hx hZ e42 Ar43 (j := (1 : Int32)) hin43 (g := (mkF m 79 #[.val (.int p0), .val (.int p1), .val (.int p2), .val (.int p3), .val (.int p4), .val (.int p5), .val (.int (5 : Int32)), .val (.double (FP.l2d v0)), .second, .val (.double (FP.l2d v1)), .second, .val (.double (FP.l2d v2)), .second, .val (.double (FP.l2d v3)), .second, .val (.double (FP.l2d v4)), .second, .val (.ref b40), .unset, .unset, .unset, .unset] [(.double (FP.l2d v1)), (.int (1 : Int32)), (.ref b40)])) rfl rfl (hb hby at_79)
    have Vs44 : Arv Z h44 b40 k40 .double (5 : Int32) [(.double (FP.l2d v0)), (.double (FP.l2d v1)), (.double (FP.l2d 0)), (.double (FP.l2d 0)), (.double (FP.l2d 0))] (.double (FP.l2d 0)) := Arv.set Ar43 q43 S43 N43' H43 G43 rfl W44 1 rfl (Nat.le_of_ble_eq_true rfl)
    have N44 := Fr.snoc X44 N42 g_b40
    obtain ⟨cl45, Ar45, q45, S45, N45', H45, G45⟩ := id Vs44
    have hin45 : ¬ ((2 : Int32) < 0 ∨ cl45.slots.size ≤ ((2 : Int32)).toNatClampNeg) := inb_of S45 ⟨by decide, by decide⟩
    obtain ⟨T46, h46, X46, e46, W46, st46⟩ := stD X44 hx hZ e44 Ar45 (j := (2 : Int32)) hin45 (g := (mkF m 91 #[.val (.int p0), .val (.int p1), .val (.int p2), .val (.int p3), .val (.int p4), .val (.int p5), .val (.int (5 : Int32)), .val (.double (FP.l2d v0)), .second, .val (.double (FP.l2d v1)), .second, .val (.double (FP.l2d v2)), .second, .val (.double (FP.l2d v3)), .second, .val (.double (FP.l2d v4)), .second, .val (.ref b40), .unset, .unset, .unset, .unset] [(.double (FP.l2d v2)), (.int (2 : Int32)), (.ref b40)])) rfl rfl (hb hby at_91)
    have Vs46 : Arv Z h46 b40 k40 .double (5 : Int32) [(.double (FP.l2d v0)), (.double (FP.l2d v1)), (.double (FP.l2d v2)), (.double (FP.l2d 0)), (.double (FP.l2d 0))] (.double (FP.l2d 0)) := Arv.set Ar45 q45 S45 N45' H45 G45 rfl W46 2 rfl (Nat.le_of_ble_eq_true rfl)
    have N46 := Fr.snoc X46 N44 g_b40
    obtain ⟨cl47, Ar47, q47, S47, N47', H47, G47⟩ := id Vs46
    have hin47 : ¬ ((3 : Int32) < 0 ∨ cl47.slots.size ≤ ((3 : Int32)).toNatClampNeg) := inb_of S47 ⟨by decide, by decide⟩
    obtain ⟨T48, h48, X48, e48, W48, st48⟩ := stD X46 hx hZ e46 Ar47 (j := (3 : Int32)) hin47 (g := (mkF m 103 #[.val (.int p0), .val (.int p1), .val (.int p2), .val (.int p3), .val (.int p4), .val (.int p5), .val (.int (5 : Int32)), .val (.double (FP.l2d v0)), .second, .val (.double (FP.l2d v1)), .second, .val (.double (FP.l2d v2)), .second, .val (.double (FP.l2d v3)), .second, .val (.double (FP.l2d v4)), .second, .val (.ref b40), .unset, .unset, .unset, .unset] [(.double (FP.l2d v3)), (.int (3 : Int32)), (.ref b40)])) rfl rfl (hb hby at_103)
    have Vs48 : Arv Z h48 b40 k40 .double (5 : Int32) [(.double (FP.l2d v0)), (.double (FP.l2d v1)), (.double (FP.l2d v2)), (.double (FP.l2d v3)), (.double (FP.l2d 0))] (.double (FP.l2d 0)) := Arv.set Ar47 q47 S47 N47' H47 G47 rfl W48 3 rfl (Nat.le_of_ble_eq_true rfl)
    have N48 := Fr.snoc X48 N46 g_b40
    obtain ⟨cl49, Ar49, q49, S49, N49', H49, G49⟩ := id Vs48
    have hin49 : ¬ ((4 : Int32) < 0 ∨ cl49.slots.size ≤ ((4 : Int32)).toNatClampNeg) := inb_of S49 ⟨by decide, by decide⟩
    obtain ⟨T50, h50, X50, e50, W50, st50⟩ := stD X48 hx hZ e48 Ar49 (j := (4 : Int32)) hin49 (g := (mkF m 115 #[.val (.int p0), .val (.int p1), .val (.int p2), .val (.int p3), .val (.int p4), .val (.int p5), .val (.int (5 : Int32)), .val (.double (FP.l2d v0)), .second, .val (.double (FP.l2d v1)), .second, .val (.double (FP.l2d v2)), .second, .val (.double (FP.l2d v3)), .second, .val (.double (FP.l2d v4)), .second, .val (.ref b40), .unset, .unset, .unset, .unset] [(.double (FP.l2d v4)), (.int (4 : Int32)), (.ref b40)])) rfl rfl (hb hby at_115)
    have Vs50 : Arv Z h50 b40 k40 .double (5 : Int32) [(.double (FP.l2d v0)), (.double (FP.l2d v1)), (.double (FP.l2d v2)), (.double (FP.l2d v3)), (.double (FP.l2d v4))] (.double (FP.l2d 0)) := Arv.set Ar49 q49 S49 N49' H49 G49 rfl W50 4 rfl (Nat.le_of_ble_eq_true rfl)
    have N50 := Fr.snoc X50 N48 g_b40
    have Zz_52 : n0 ≤ h50.size := (Nat.le_trans (Nat.le_trans (Nat.le_trans (Nat.le_trans (Nat.le_trans (Nat.le_trans Z0 E40.1) (Keep.of_wr W42).1) (Keep.of_wr W44).1) (Keep.of_wr W46).1) (Keep.of_wr W48).1) (Keep.of_wr W50).1)
    obtain ⟨_, _, ⟨T51, L51, k51, n51⟩, -, X51, ⟨Lc51, hQ51, l51, y51, z51⟩, st51⟩ := Jvm.LawKit.callS X50 hx (y := (⟨"com/example/gyre/bench/Handoff", "median", "([D)D"⟩ : MethodName)) hown (mvT hZ (hw _ (List.mem_of_getElem? (i := 3) rfl))) (mvT hZ (hw _ (List.mem_of_getElem? (i := 4) rfl))) (mvT hZ (hw _ (List.mem_of_getElem? (i := 5) rfl))) (mvT hZ (hw _ (List.mem_of_getElem? (i := 6) rfl))) (by decide) (backOf (W := 0) (rm1_5 l Z aw hw [] b40 k40 (FP.l2d v0) (FP.l2d v1) (FP.l2d v2) (FP.l2d v3) (FP.l2d v4) h50 n0 Zz_52 Vs50) hZ (hw _ (List.mem_of_getElem? (i := 6) rfl)) (hw _ (List.mem_of_getElem? (i := 5) rfl)) (by decide) (by decide)) (g := (mkF m 118 #[.val (.int p0), .val (.int p1), .val (.int p2), .val (.int p3), .val (.int p4), .val (.int p5), .val (.int (5 : Int32)), .val (.double (FP.l2d v0)), .second, .val (.double (FP.l2d v1)), .second, .val (.double (FP.l2d v2)), .second, .val (.double (FP.l2d v3)), .second, .val (.double (FP.l2d v4)), .second, .val (.ref b40), .unset, .unset, .unset, .unset] [(.ref b40)])) rfl (by rw [hml]; rfl) (argsL := [(.ref b40)]) (rest := []) (lenOf pd_rm0_0 rfl) rfl (by show 2 * 0 + _ ≤ _; exact Nat.le_of_eq rfl) (hb hby at_118) (fun _ _ => ⟨rfl, e50, (by decide : 1 + 0 ≤ _), (by decide : 5 + 0 ≤ _)⟩)
    dsimp only [Pt.U, Pt.locs, Pt.cells, Pt.slots] at X51 l51 y51 z51 st51 hQ51
    subst l51 y51 z51
    obtain ⟨rfl, N51q, e51q⟩ := hQ51
    have N51 := Fr.app N50 N51q
    obtain ⟨fs, hr, hrun, hended, hW, hsame⟩ := X51.leave (v := some (.int (1 : Int32))) (fun h => by rw [Bd.returns] at h; cases h)
    refine ⟨_, _, pre7 _ ?_, hrun, hended, _, _, rfl, ?_, ⟨_, rfl⟩, hW, hsame.mono (by decide) (by decide)⟩
    · show Steps p.tables e below (s₁.setTop (mkF m 56 #[.val (.int p0), .val (.int p1), .val (.int p2), .val (.int p3), .val (.int p4), .val (.int p5), .val (.int (5 : Int32)), .val (.double (FP.l2d v0)), .second, .val (.double (FP.l2d v1)), .second, .val (.double (FP.l2d v2)), .second, .val (.double (FP.l2d v3)), .second, .val (.double (FP.l2d v4)), .second, .unset, .unset, .unset, .unset, .unset] [])) _
      refine XS.iload X0.here hx rfl (hb hby at_56) rfl ?_
      show Steps p.tables e below (s₁.setTop (mkF m 58 #[.val (.int p0), .val (.int p1), .val (.int p2), .val (.int p3), .val (.int p4), .val (.int p5), .val (.int (5 : Int32)), .val (.double (FP.l2d v0)), .second, .val (.double (FP.l2d v1)), .second, .val (.double (FP.l2d v2)), .second, .val (.double (FP.l2d v3)), .second, .val (.double (FP.l2d v4)), .second, .unset, .unset, .unset, .unset, .unset] [(.int (5 : Int32))])) _
      refine st40 _ ?_
      show Steps p.tables e below (T40.setTop (mkF m 60 #[.val (.int p0), .val (.int p1), .val (.int p2), .val (.int p3), .val (.int p4), .val (.int p5), .val (.int (5 : Int32)), .val (.double (FP.l2d v0)), .second, .val (.double (FP.l2d v1)), .second, .val (.double (FP.l2d v2)), .second, .val (.double (FP.l2d v3)), .second, .val (.double (FP.l2d v4)), .second, .unset, .unset, .unset, .unset, .unset] [(.ref b40)])) _
      refine XS.astore X40.here hx rfl (hb hby at_60) rfl rfl (l' := #[.val (.int p0), .val (.int p1), .val (.int p2), .val (.int p3), .val (.int p4), .val (.int p5), .val (.int (5 : Int32)), .val (.double (FP.l2d v0)), .second, .val (.double (FP.l2d v1)), .second, .val (.double (FP.l2d v2)), .second, .val (.double (FP.l2d v3)), .second, .val (.double (FP.l2d v4)), .second, .val (.ref b40), .unset, .unset, .unset, .unset]) rfl ?_
      show Steps p.tables e below (T40.setTop (mkF m 62 #[.val (.int p0), .val (.int p1), .val (.int p2), .val (.int p3), .val (.int p4), .val (.int p5), .val (.int (5 : Int32)), .val (.double (FP.l2d v0)), .second, .val (.double (FP.l2d v1)), .second, .val (.double (FP.l2d v2)), .second, .val (.double (FP.l2d v3)), .second, .val (.double (FP.l2d v4)), .second, .val (.ref b40), .unset, .unset, .unset, .unset] [])) _
      refine XS.aload X40.here hx rfl (hb hby at_62) rfl rfl ?_
      show Steps p.tables e below (T40.setTop (mkF m 64 #[.val (.int p0), .val (.int p1), .val (.int p2), .val (.int p3), .val (.int p4), .val (.int p5), .val (.int (5 : Int32)), .val (.double (FP.l2d v0)), .second, .val (.double (FP.l2d v1)), .second, .val (.double (FP.l2d v2)), .second, .val (.double (FP.l2d v3)), .second, .val (.double (FP.l2d v4)), .second, .val (.ref b40), .unset, .unset, .unset, .unset] [(.ref b40)])) _
      refine XS.iconst X40.here hx rfl (hb hby at_64) ?_
      show Steps p.tables e below (T40.setTop (mkF m 65 #[.val (.int p0), .val (.int p1), .val (.int p2), .val (.int p3), .val (.int p4), .val (.int p5), .val (.int (5 : Int32)), .val (.double (FP.l2d v0)), .second, .val (.double (FP.l2d v1)), .second, .val (.double (FP.l2d v2)), .second, .val (.double (FP.l2d v3)), .second, .val (.double (FP.l2d v4)), .second, .val (.ref b40), .unset, .unset, .unset, .unset] [(.int (0 : Int32)), (.ref b40)])) _
      refine XS.dload X40.here hx rfl (hb hby at_65) rfl ?_
      show Steps p.tables e below (T40.setTop (mkF m 67 #[.val (.int p0), .val (.int p1), .val (.int p2), .val (.int p3), .val (.int p4), .val (.int p5), .val (.int (5 : Int32)), .val (.double (FP.l2d v0)), .second, .val (.double (FP.l2d v1)), .second, .val (.double (FP.l2d v2)), .second, .val (.double (FP.l2d v3)), .second, .val (.double (FP.l2d v4)), .second, .val (.ref b40), .unset, .unset, .unset, .unset] [(.double (FP.l2d v0)), (.int (0 : Int32)), (.ref b40)])) _
      refine st42 _ ?_
      show Steps p.tables e below (T42.setTop (mkF m 68 #[.val (.int p0), .val (.int p1), .val (.int p2), .val (.int p3), .val (.int p4), .val (.int p5), .val (.int (5 : Int32)), .val (.double (FP.l2d v0)), .second, .val (.double (FP.l2d v1)), .second, .val (.double (FP.l2d v2)), .second, .val (.double (FP.l2d v3)), .second, .val (.double (FP.l2d v4)), .second, .val (.ref b40), .unset, .unset, .unset, .unset] [])) _
      refine XS.iload X42.here hx rfl (hb hby at_68) rfl ?_
      show Steps p.tables e below (T42.setTop (mkF m 70 #[.val (.int p0), .val (.int p1), .val (.int p2), .val (.int p3), .val (.int p4), .val (.int p5), .val (.int (5 : Int32)), .val (.double (FP.l2d v0)), .second, .val (.double (FP.l2d v1)), .second, .val (.double (FP.l2d v2)), .second, .val (.double (FP.l2d v3)), .second, .val (.double (FP.l2d v4)), .second, .val (.ref b40), .unset, .unset, .unset, .unset] [(.int (5 : Int32))])) _
      refine XS.iconst X42.here hx rfl (hb hby at_70) ?_
      show Steps p.tables e below (T42.setTop (mkF m 71 #[.val (.int p0), .val (.int p1), .val (.int p2), .val (.int p3), .val (.int p4), .val (.int p5), .val (.int (5 : Int32)), .val (.double (FP.l2d v0)), .second, .val (.double (FP.l2d v1)), .second, .val (.double (FP.l2d v2)), .second, .val (.double (FP.l2d v3)), .second, .val (.double (FP.l2d v4)), .second, .val (.ref b40), .unset, .unset, .unset, .unset] [(.int (1 : Int32)), (.int (5 : Int32))])) _
      refine XS.icmpNo X42.here hx rfl (hb hby at_71) rfl (tlt ((by decide) : (1 : Int32) < (5 : Int32))).2.2.2 ?_
      show Steps p.tables e below (T42.setTop (mkF m 74 #[.val (.int p0), .val (.int p1), .val (.int p2), .val (.int p3), .val (.int p4), .val (.int p5), .val (.int (5 : Int32)), .val (.double (FP.l2d v0)), .second, .val (.double (FP.l2d v1)), .second, .val (.double (FP.l2d v2)), .second, .val (.double (FP.l2d v3)), .second, .val (.double (FP.l2d v4)), .second, .val (.ref b40), .unset, .unset, .unset, .unset] [])) _
      refine XS.aload X42.here hx rfl (hb hby at_74) rfl rfl ?_
      show Steps p.tables e below (T42.setTop (mkF m 76 #[.val (.int p0), .val (.int p1), .val (.int p2), .val (.int p3), .val (.int p4), .val (.int p5), .val (.int (5 : Int32)), .val (.double (FP.l2d v0)), .second, .val (.double (FP.l2d v1)), .second, .val (.double (FP.l2d v2)), .second, .val (.double (FP.l2d v3)), .second, .val (.double (FP.l2d v4)), .second, .val (.ref b40), .unset, .unset, .unset, .unset] [(.ref b40)])) _
      refine XS.iconst X42.here hx rfl (hb hby at_76) ?_
      show Steps p.tables e below (T42.setTop (mkF m 77 #[.val (.int p0), .val (.int p1), .val (.int p2), .val (.int p3), .val (.int p4), .val (.int p5), .val (.int (5 : Int32)), .val (.double (FP.l2d v0)), .second, .val (.double (FP.l2d v1)), .second, .val (.double (FP.l2d v2)), .second, .val (.double (FP.l2d v3)), .second, .val (.double (FP.l2d v4)), .second, .val (.ref b40), .unset, .unset, .unset, .unset] [(.int (1 : Int32)), (.ref b40)])) _
      refine XS.dload X42.here hx rfl (hb hby at_77) rfl ?_
      show Steps p.tables e below (T42.setTop (mkF m 79 #[.val (.int p0), .val (.int p1), .val (.int p2), .val (.int p3), .val (.int p4), .val (.int p5), .val (.int (5 : Int32)), .val (.double (FP.l2d v0)), .second, .val (.double (FP.l2d v1)), .second, .val (.double (FP.l2d v2)), .second, .val (.double (FP.l2d v3)), .second, .val (.double (FP.l2d v4)), .second, .val (.ref b40), .unset, .unset, .unset, .unset] [(.double (FP.l2d v1)), (.int (1 : Int32)), (.ref b40)])) _
      refine st44 _ ?_
      show Steps p.tables e below (T44.setTop (mkF m 80 #[.val (.int p0), .val (.int p1), .val (.int p2), .val (.int p3), .val (.int p4), .val (.int p5), .val (.int (5 : Int32)), .val (.double (FP.l2d v0)), .second, .val (.double (FP.l2d v1)), .second, .val (.double (FP.l2d v2)), .second, .val (.double (FP.l2d v3)), .second, .val (.double (FP.l2d v4)), .second, .val (.ref b40), .unset, .unset, .unset, .unset] [])) _
      refine XS.iload X44.here hx rfl (hb hby at_80) rfl ?_
      show Steps p.tables e below (T44.setTop (mkF m 82 #[.val (.int p0), .val (.int p1), .val (.int p2), .val (.int p3), .val (.int p4), .val (.int p5), .val (.int (5 : Int32)), .val (.double (FP.l2d v0)), .second, .val (.double (FP.l2d v1)), .second, .val (.double (FP.l2d v2)), .second, .val (.double (FP.l2d v3)), .second, .val (.double (FP.l2d v4)), .second, .val (.ref b40), .unset, .unset, .unset, .unset] [(.int (5 : Int32))])) _
      refine XS.iconst X44.here hx rfl (hb hby at_82) ?_
      show Steps p.tables e below (T44.setTop (mkF m 83 #[.val (.int p0), .val (.int p1), .val (.int p2), .val (.int p3), .val (.int p4), .val (.int p5), .val (.int (5 : Int32)), .val (.double (FP.l2d v0)), .second, .val (.double (FP.l2d v1)), .second, .val (.double (FP.l2d v2)), .second, .val (.double (FP.l2d v3)), .second, .val (.double (FP.l2d v4)), .second, .val (.ref b40), .unset, .unset, .unset, .unset] [(.int (2 : Int32)), (.int (5 : Int32))])) _
      refine XS.icmpNo X44.here hx rfl (hb hby at_83) rfl (tlt ((by decide) : (2 : Int32) < (5 : Int32))).2.2.2 ?_
      show Steps p.tables e below (T44.setTop (mkF m 86 #[.val (.int p0), .val (.int p1), .val (.int p2), .val (.int p3), .val (.int p4), .val (.int p5), .val (.int (5 : Int32)), .val (.double (FP.l2d v0)), .second, .val (.double (FP.l2d v1)), .second, .val (.double (FP.l2d v2)), .second, .val (.double (FP.l2d v3)), .second, .val (.double (FP.l2d v4)), .second, .val (.ref b40), .unset, .unset, .unset, .unset] [])) _
      refine XS.aload X44.here hx rfl (hb hby at_86) rfl rfl ?_
      show Steps p.tables e below (T44.setTop (mkF m 88 #[.val (.int p0), .val (.int p1), .val (.int p2), .val (.int p3), .val (.int p4), .val (.int p5), .val (.int (5 : Int32)), .val (.double (FP.l2d v0)), .second, .val (.double (FP.l2d v1)), .second, .val (.double (FP.l2d v2)), .second, .val (.double (FP.l2d v3)), .second, .val (.double (FP.l2d v4)), .second, .val (.ref b40), .unset, .unset, .unset, .unset] [(.ref b40)])) _
      refine XS.iconst X44.here hx rfl (hb hby at_88) ?_
      show Steps p.tables e below (T44.setTop (mkF m 89 #[.val (.int p0), .val (.int p1), .val (.int p2), .val (.int p3), .val (.int p4), .val (.int p5), .val (.int (5 : Int32)), .val (.double (FP.l2d v0)), .second, .val (.double (FP.l2d v1)), .second, .val (.double (FP.l2d v2)), .second, .val (.double (FP.l2d v3)), .second, .val (.double (FP.l2d v4)), .second, .val (.ref b40), .unset, .unset, .unset, .unset] [(.int (2 : Int32)), (.ref b40)])) _
      refine XS.dload X44.here hx rfl (hb hby at_89) rfl ?_
      show Steps p.tables e below (T44.setTop (mkF m 91 #[.val (.int p0), .val (.int p1), .val (.int p2), .val (.int p3), .val (.int p4), .val (.int p5), .val (.int (5 : Int32)), .val (.double (FP.l2d v0)), .second, .val (.double (FP.l2d v1)), .second, .val (.double (FP.l2d v2)), .second, .val (.double (FP.l2d v3)), .second, .val (.double (FP.l2d v4)), .second, .val (.ref b40), .unset, .unset, .unset, .unset] [(.double (FP.l2d v2)), (.int (2 : Int32)), (.ref b40)])) _
      refine st46 _ ?_
      show Steps p.tables e below (T46.setTop (mkF m 92 #[.val (.int p0), .val (.int p1), .val (.int p2), .val (.int p3), .val (.int p4), .val (.int p5), .val (.int (5 : Int32)), .val (.double (FP.l2d v0)), .second, .val (.double (FP.l2d v1)), .second, .val (.double (FP.l2d v2)), .second, .val (.double (FP.l2d v3)), .second, .val (.double (FP.l2d v4)), .second, .val (.ref b40), .unset, .unset, .unset, .unset] [])) _
      refine XS.iload X46.here hx rfl (hb hby at_92) rfl ?_
      show Steps p.tables e below (T46.setTop (mkF m 94 #[.val (.int p0), .val (.int p1), .val (.int p2), .val (.int p3), .val (.int p4), .val (.int p5), .val (.int (5 : Int32)), .val (.double (FP.l2d v0)), .second, .val (.double (FP.l2d v1)), .second, .val (.double (FP.l2d v2)), .second, .val (.double (FP.l2d v3)), .second, .val (.double (FP.l2d v4)), .second, .val (.ref b40), .unset, .unset, .unset, .unset] [(.int (5 : Int32))])) _
      refine XS.iconst X46.here hx rfl (hb hby at_94) ?_
      show Steps p.tables e below (T46.setTop (mkF m 95 #[.val (.int p0), .val (.int p1), .val (.int p2), .val (.int p3), .val (.int p4), .val (.int p5), .val (.int (5 : Int32)), .val (.double (FP.l2d v0)), .second, .val (.double (FP.l2d v1)), .second, .val (.double (FP.l2d v2)), .second, .val (.double (FP.l2d v3)), .second, .val (.double (FP.l2d v4)), .second, .val (.ref b40), .unset, .unset, .unset, .unset] [(.int (3 : Int32)), (.int (5 : Int32))])) _
      refine XS.icmpNo X46.here hx rfl (hb hby at_95) rfl (tlt ((by decide) : (3 : Int32) < (5 : Int32))).2.2.2 ?_
      show Steps p.tables e below (T46.setTop (mkF m 98 #[.val (.int p0), .val (.int p1), .val (.int p2), .val (.int p3), .val (.int p4), .val (.int p5), .val (.int (5 : Int32)), .val (.double (FP.l2d v0)), .second, .val (.double (FP.l2d v1)), .second, .val (.double (FP.l2d v2)), .second, .val (.double (FP.l2d v3)), .second, .val (.double (FP.l2d v4)), .second, .val (.ref b40), .unset, .unset, .unset, .unset] [])) _
      refine XS.aload X46.here hx rfl (hb hby at_98) rfl rfl ?_
      show Steps p.tables e below (T46.setTop (mkF m 100 #[.val (.int p0), .val (.int p1), .val (.int p2), .val (.int p3), .val (.int p4), .val (.int p5), .val (.int (5 : Int32)), .val (.double (FP.l2d v0)), .second, .val (.double (FP.l2d v1)), .second, .val (.double (FP.l2d v2)), .second, .val (.double (FP.l2d v3)), .second, .val (.double (FP.l2d v4)), .second, .val (.ref b40), .unset, .unset, .unset, .unset] [(.ref b40)])) _
      refine XS.iconst X46.here hx rfl (hb hby at_100) ?_
      show Steps p.tables e below (T46.setTop (mkF m 101 #[.val (.int p0), .val (.int p1), .val (.int p2), .val (.int p3), .val (.int p4), .val (.int p5), .val (.int (5 : Int32)), .val (.double (FP.l2d v0)), .second, .val (.double (FP.l2d v1)), .second, .val (.double (FP.l2d v2)), .second, .val (.double (FP.l2d v3)), .second, .val (.double (FP.l2d v4)), .second, .val (.ref b40), .unset, .unset, .unset, .unset] [(.int (3 : Int32)), (.ref b40)])) _
      refine XS.dload X46.here hx rfl (hb hby at_101) rfl ?_
      show Steps p.tables e below (T46.setTop (mkF m 103 #[.val (.int p0), .val (.int p1), .val (.int p2), .val (.int p3), .val (.int p4), .val (.int p5), .val (.int (5 : Int32)), .val (.double (FP.l2d v0)), .second, .val (.double (FP.l2d v1)), .second, .val (.double (FP.l2d v2)), .second, .val (.double (FP.l2d v3)), .second, .val (.double (FP.l2d v4)), .second, .val (.ref b40), .unset, .unset, .unset, .unset] [(.double (FP.l2d v3)), (.int (3 : Int32)), (.ref b40)])) _
      refine st48 _ ?_
      show Steps p.tables e below (T48.setTop (mkF m 104 #[.val (.int p0), .val (.int p1), .val (.int p2), .val (.int p3), .val (.int p4), .val (.int p5), .val (.int (5 : Int32)), .val (.double (FP.l2d v0)), .second, .val (.double (FP.l2d v1)), .second, .val (.double (FP.l2d v2)), .second, .val (.double (FP.l2d v3)), .second, .val (.double (FP.l2d v4)), .second, .val (.ref b40), .unset, .unset, .unset, .unset] [])) _
      refine XS.iload X48.here hx rfl (hb hby at_104) rfl ?_
      show Steps p.tables e below (T48.setTop (mkF m 106 #[.val (.int p0), .val (.int p1), .val (.int p2), .val (.int p3), .val (.int p4), .val (.int p5), .val (.int (5 : Int32)), .val (.double (FP.l2d v0)), .second, .val (.double (FP.l2d v1)), .second, .val (.double (FP.l2d v2)), .second, .val (.double (FP.l2d v3)), .second, .val (.double (FP.l2d v4)), .second, .val (.ref b40), .unset, .unset, .unset, .unset] [(.int (5 : Int32))])) _
      refine XS.iconst X48.here hx rfl (hb hby at_106) ?_
      show Steps p.tables e below (T48.setTop (mkF m 107 #[.val (.int p0), .val (.int p1), .val (.int p2), .val (.int p3), .val (.int p4), .val (.int p5), .val (.int (5 : Int32)), .val (.double (FP.l2d v0)), .second, .val (.double (FP.l2d v1)), .second, .val (.double (FP.l2d v2)), .second, .val (.double (FP.l2d v3)), .second, .val (.double (FP.l2d v4)), .second, .val (.ref b40), .unset, .unset, .unset, .unset] [(.int (4 : Int32)), (.int (5 : Int32))])) _
      refine XS.icmpNo X48.here hx rfl (hb hby at_107) rfl (tlt ((by decide) : (4 : Int32) < (5 : Int32))).2.2.2 ?_
      show Steps p.tables e below (T48.setTop (mkF m 110 #[.val (.int p0), .val (.int p1), .val (.int p2), .val (.int p3), .val (.int p4), .val (.int p5), .val (.int (5 : Int32)), .val (.double (FP.l2d v0)), .second, .val (.double (FP.l2d v1)), .second, .val (.double (FP.l2d v2)), .second, .val (.double (FP.l2d v3)), .second, .val (.double (FP.l2d v4)), .second, .val (.ref b40), .unset, .unset, .unset, .unset] [])) _
      refine XS.aload X48.here hx rfl (hb hby at_110) rfl rfl ?_
      show Steps p.tables e below (T48.setTop (mkF m 112 #[.val (.int p0), .val (.int p1), .val (.int p2), .val (.int p3), .val (.int p4), .val (.int p5), .val (.int (5 : Int32)), .val (.double (FP.l2d v0)), .second, .val (.double (FP.l2d v1)), .second, .val (.double (FP.l2d v2)), .second, .val (.double (FP.l2d v3)), .second, .val (.double (FP.l2d v4)), .second, .val (.ref b40), .unset, .unset, .unset, .unset] [(.ref b40)])) _
      refine XS.iconst X48.here hx rfl (hb hby at_112) ?_
      show Steps p.tables e below (T48.setTop (mkF m 113 #[.val (.int p0), .val (.int p1), .val (.int p2), .val (.int p3), .val (.int p4), .val (.int p5), .val (.int (5 : Int32)), .val (.double (FP.l2d v0)), .second, .val (.double (FP.l2d v1)), .second, .val (.double (FP.l2d v2)), .second, .val (.double (FP.l2d v3)), .second, .val (.double (FP.l2d v4)), .second, .val (.ref b40), .unset, .unset, .unset, .unset] [(.int (4 : Int32)), (.ref b40)])) _
      refine XS.dload X48.here hx rfl (hb hby at_113) rfl ?_
      show Steps p.tables e below (T48.setTop (mkF m 115 #[.val (.int p0), .val (.int p1), .val (.int p2), .val (.int p3), .val (.int p4), .val (.int p5), .val (.int (5 : Int32)), .val (.double (FP.l2d v0)), .second, .val (.double (FP.l2d v1)), .second, .val (.double (FP.l2d v2)), .second, .val (.double (FP.l2d v3)), .second, .val (.double (FP.l2d v4)), .second, .val (.ref b40), .unset, .unset, .unset, .unset] [(.double (FP.l2d v4)), (.int (4 : Int32)), (.ref b40)])) _
      refine st50 _ ?_
      show Steps p.tables e below (T50.setTop (mkF m 116 #[.val (.int p0), .val (.int p1), .val (.int p2), .val (.int p3), .val (.int p4), .val (.int p5), .val (.int (5 : Int32)), .val (.double (FP.l2d v0)), .second, .val (.double (FP.l2d v1)), .second, .val (.double (FP.l2d v2)), .second, .val (.double (FP.l2d v3)), .second, .val (.double (FP.l2d v4)), .second, .val (.ref b40), .unset, .unset, .unset, .unset] [])) _
      refine XS.aload X50.here hx rfl (hb hby at_116) rfl rfl ?_
      show Steps p.tables e below (T50.setTop (mkF m 118 #[.val (.int p0), .val (.int p1), .val (.int p2), .val (.int p3), .val (.int p4), .val (.int p5), .val (.int (5 : Int32)), .val (.double (FP.l2d v0)), .second, .val (.double (FP.l2d v1)), .second, .val (.double (FP.l2d v2)), .second, .val (.double (FP.l2d v3)), .second, .val (.double (FP.l2d v4)), .second, .val (.ref b40), .unset, .unset, .unset, .unset] [(.ref b40)])) _
      refine st51 _ ?_
      show Steps p.tables e below (T51.setTop (mkF m 121 #[.val (.int p0), .val (.int p1), .val (.int p2), .val (.int p3), .val (.int p4), .val (.int p5), .val (.int (5 : Int32)), .val (.double (FP.l2d v0)), .second, .val (.double (FP.l2d v1)), .second, .val (.double (FP.l2d v2)), .second, .val (.double (FP.l2d v3)), .second, .val (.double (FP.l2d v4)), .second, .val (.ref b40), .unset, .unset, .unset, .unset] [(.double (FP.l2d v2))])) _
      refine XS.dstore X51.here hx rfl (hb hby at_121) rfl (l' := #[.val (.int p0), .val (.int p1), .val (.int p2), .val (.int p3), .val (.int p4), .val (.int p5), .val (.int (5 : Int32)), .val (.double (FP.l2d v0)), .second, .val (.double (FP.l2d v1)), .second, .val (.double (FP.l2d v2)), .second, .val (.double (FP.l2d v3)), .second, .val (.double (FP.l2d v4)), .second, .val (.ref b40), .val (.double (FP.l2d v2)), .second, .unset, .unset]) rfl ?_
      show Steps p.tables e below (T51.setTop (mkF m 123 #[.val (.int p0), .val (.int p1), .val (.int p2), .val (.int p3), .val (.int p4), .val (.int p5), .val (.int (5 : Int32)), .val (.double (FP.l2d v0)), .second, .val (.double (FP.l2d v1)), .second, .val (.double (FP.l2d v2)), .second, .val (.double (FP.l2d v3)), .second, .val (.double (FP.l2d v4)), .second, .val (.ref b40), .val (.double (FP.l2d v2)), .second, .unset, .unset] [])) _
      refine XS.iload X51.here hx rfl (hb hby at_123) rfl ?_
      show Steps p.tables e below (T51.setTop (mkF m 125 #[.val (.int p0), .val (.int p1), .val (.int p2), .val (.int p3), .val (.int p4), .val (.int p5), .val (.int (5 : Int32)), .val (.double (FP.l2d v0)), .second, .val (.double (FP.l2d v1)), .second, .val (.double (FP.l2d v2)), .second, .val (.double (FP.l2d v3)), .second, .val (.double (FP.l2d v4)), .second, .val (.ref b40), .val (.double (FP.l2d v2)), .second, .unset, .unset] [(.int (5 : Int32))])) _
      refine XS.iconst X51.here hx rfl (hb hby at_125) ?_
      show Steps p.tables e below (T51.setTop (mkF m 126 #[.val (.int p0), .val (.int p1), .val (.int p2), .val (.int p3), .val (.int p4), .val (.int p5), .val (.int (5 : Int32)), .val (.double (FP.l2d v0)), .second, .val (.double (FP.l2d v1)), .second, .val (.double (FP.l2d v2)), .second, .val (.double (FP.l2d v3)), .second, .val (.double (FP.l2d v4)), .second, .val (.ref b40), .val (.double (FP.l2d v2)), .second, .unset, .unset] [(.int (1 : Int32)), (.int (5 : Int32))])) _
      refine XS.icmpYes X51.here hx rfl (pc0 := 126) (pc' := 136) rfl (hb hby at_126) rfl (feq ((by decide) : ¬ ((5 : Int32) = (1 : Int32)))).2 (by decide) (by decide) ?_
      show Steps p.tables e below (T51.setTop (mkF m 136 #[.val (.int p0), .val (.int p1), .val (.int p2), .val (.int p3), .val (.int p4), .val (.int p5), .val (.int (5 : Int32)), .val (.double (FP.l2d v0)), .second, .val (.double (FP.l2d v1)), .second, .val (.double (FP.l2d v2)), .second, .val (.double (FP.l2d v3)), .second, .val (.double (FP.l2d v4)), .second, .val (.ref b40), .val (.double (FP.l2d v2)), .second, .unset, .unset] [])) _
      refine XS.iload X51.here hx rfl (hb hby at_136) rfl ?_
      show Steps p.tables e below (T51.setTop (mkF m 138 #[.val (.int p0), .val (.int p1), .val (.int p2), .val (.int p3), .val (.int p4), .val (.int p5), .val (.int (5 : Int32)), .val (.double (FP.l2d v0)), .second, .val (.double (FP.l2d v1)), .second, .val (.double (FP.l2d v2)), .second, .val (.double (FP.l2d v3)), .second, .val (.double (FP.l2d v4)), .second, .val (.ref b40), .val (.double (FP.l2d v2)), .second, .unset, .unset] [(.int (5 : Int32))])) _
      refine XS.iconst X51.here hx rfl (hb hby at_138) ?_
      show Steps p.tables e below (T51.setTop (mkF m 139 #[.val (.int p0), .val (.int p1), .val (.int p2), .val (.int p3), .val (.int p4), .val (.int p5), .val (.int (5 : Int32)), .val (.double (FP.l2d v0)), .second, .val (.double (FP.l2d v1)), .second, .val (.double (FP.l2d v2)), .second, .val (.double (FP.l2d v3)), .second, .val (.double (FP.l2d v4)), .second, .val (.ref b40), .val (.double (FP.l2d v2)), .second, .unset, .unset] [(.int (2 : Int32)), (.int (5 : Int32))])) _
      refine XS.icmpYes X51.here hx rfl (pc0 := 139) (pc' := 156) rfl (hb hby at_139) rfl (feq ((by decide) : ¬ ((5 : Int32) = (2 : Int32)))).2 (by decide) (by decide) ?_
      show Steps p.tables e below (T51.setTop (mkF m 156 #[.val (.int p0), .val (.int p1), .val (.int p2), .val (.int p3), .val (.int p4), .val (.int p5), .val (.int (5 : Int32)), .val (.double (FP.l2d v0)), .second, .val (.double (FP.l2d v1)), .second, .val (.double (FP.l2d v2)), .second, .val (.double (FP.l2d v3)), .second, .val (.double (FP.l2d v4)), .second, .val (.ref b40), .val (.double (FP.l2d v2)), .second, .unset, .unset] [])) _
      refine XS.iload X51.here hx rfl (hb hby at_156) rfl ?_
      show Steps p.tables e below (T51.setTop (mkF m 158 #[.val (.int p0), .val (.int p1), .val (.int p2), .val (.int p3), .val (.int p4), .val (.int p5), .val (.int (5 : Int32)), .val (.double (FP.l2d v0)), .second, .val (.double (FP.l2d v1)), .second, .val (.double (FP.l2d v2)), .second, .val (.double (FP.l2d v3)), .second, .val (.double (FP.l2d v4)), .second, .val (.ref b40), .val (.double (FP.l2d v2)), .second, .unset, .unset] [(.int (5 : Int32))])) _
      refine XS.iconst X51.here hx rfl (hb hby at_158) ?_
      show Steps p.tables e below (T51.setTop (mkF m 159 #[.val (.int p0), .val (.int p1), .val (.int p2), .val (.int p3), .val (.int p4), .val (.int p5), .val (.int (5 : Int32)), .val (.double (FP.l2d v0)), .second, .val (.double (FP.l2d v1)), .second, .val (.double (FP.l2d v2)), .second, .val (.double (FP.l2d v3)), .second, .val (.double (FP.l2d v4)), .second, .val (.ref b40), .val (.double (FP.l2d v2)), .second, .unset, .unset] [(.int (3 : Int32)), (.int (5 : Int32))])) _
      refine XS.icmpYes X51.here hx rfl (pc0 := 159) (pc' := 169) rfl (hb hby at_159) rfl (feq ((by decide) : ¬ ((5 : Int32) = (3 : Int32)))).2 (by decide) (by decide) ?_
      show Steps p.tables e below (T51.setTop (mkF m 169 #[.val (.int p0), .val (.int p1), .val (.int p2), .val (.int p3), .val (.int p4), .val (.int p5), .val (.int (5 : Int32)), .val (.double (FP.l2d v0)), .second, .val (.double (FP.l2d v1)), .second, .val (.double (FP.l2d v2)), .second, .val (.double (FP.l2d v3)), .second, .val (.double (FP.l2d v4)), .second, .val (.ref b40), .val (.double (FP.l2d v2)), .second, .unset, .unset] [])) _
      refine XS.iload X51.here hx rfl (hb hby at_169) rfl ?_
      show Steps p.tables e below (T51.setTop (mkF m 171 #[.val (.int p0), .val (.int p1), .val (.int p2), .val (.int p3), .val (.int p4), .val (.int p5), .val (.int (5 : Int32)), .val (.double (FP.l2d v0)), .second, .val (.double (FP.l2d v1)), .second, .val (.double (FP.l2d v2)), .second, .val (.double (FP.l2d v3)), .second, .val (.double (FP.l2d v4)), .second, .val (.ref b40), .val (.double (FP.l2d v2)), .second, .unset, .unset] [(.int (5 : Int32))])) _
      refine XS.iconst X51.here hx rfl (hb hby at_171) ?_
      show Steps p.tables e below (T51.setTop (mkF m 172 #[.val (.int p0), .val (.int p1), .val (.int p2), .val (.int p3), .val (.int p4), .val (.int p5), .val (.int (5 : Int32)), .val (.double (FP.l2d v0)), .second, .val (.double (FP.l2d v1)), .second, .val (.double (FP.l2d v2)), .second, .val (.double (FP.l2d v3)), .second, .val (.double (FP.l2d v4)), .second, .val (.ref b40), .val (.double (FP.l2d v2)), .second, .unset, .unset] [(.int (4 : Int32)), (.int (5 : Int32))])) _
      refine XS.icmpYes X51.here hx rfl (pc0 := 172) (pc' := 189) rfl (hb hby at_172) rfl (feq ((by decide) : ¬ ((5 : Int32) = (4 : Int32)))).2 (by decide) (by decide) ?_
      show Steps p.tables e below (T51.setTop (mkF m 189 #[.val (.int p0), .val (.int p1), .val (.int p2), .val (.int p3), .val (.int p4), .val (.int p5), .val (.int (5 : Int32)), .val (.double (FP.l2d v0)), .second, .val (.double (FP.l2d v1)), .second, .val (.double (FP.l2d v2)), .second, .val (.double (FP.l2d v3)), .second, .val (.double (FP.l2d v4)), .second, .val (.ref b40), .val (.double (FP.l2d v2)), .second, .unset, .unset] [])) _
      refine XS.dload X51.here hx rfl (hb hby at_189) rfl ?_
      show Steps p.tables e below (T51.setTop (mkF m 191 #[.val (.int p0), .val (.int p1), .val (.int p2), .val (.int p3), .val (.int p4), .val (.int p5), .val (.int (5 : Int32)), .val (.double (FP.l2d v0)), .second, .val (.double (FP.l2d v1)), .second, .val (.double (FP.l2d v2)), .second, .val (.double (FP.l2d v3)), .second, .val (.double (FP.l2d v4)), .second, .val (.ref b40), .val (.double (FP.l2d v2)), .second, .unset, .unset] [(.double (FP.l2d v2))])) _
      refine XS.dstore X51.here hx rfl (hb hby at_191) rfl (l' := #[.val (.int p0), .val (.int p1), .val (.int p2), .val (.int p3), .val (.int p4), .val (.int p5), .val (.int (5 : Int32)), .val (.double (FP.l2d v0)), .second, .val (.double (FP.l2d v1)), .second, .val (.double (FP.l2d v2)), .second, .val (.double (FP.l2d v3)), .second, .val (.double (FP.l2d v4)), .second, .val (.ref b40), .val (.double (FP.l2d v2)), .second, .val (.double (FP.l2d v2)), .second]) rfl ?_
      show Steps p.tables e below (T51.setTop (mkF m 193 #[.val (.int p0), .val (.int p1), .val (.int p2), .val (.int p3), .val (.int p4), .val (.int p5), .val (.int (5 : Int32)), .val (.double (FP.l2d v0)), .second, .val (.double (FP.l2d v1)), .second, .val (.double (FP.l2d v2)), .second, .val (.double (FP.l2d v3)), .second, .val (.double (FP.l2d v4)), .second, .val (.ref b40), .val (.double (FP.l2d v2)), .second, .val (.double (FP.l2d v2)), .second] [])) _
      refine XS.dload X51.here hx rfl (hb hby at_193) rfl ?_
      show Steps p.tables e below (T51.setTop (mkF m 195 #[.val (.int p0), .val (.int p1), .val (.int p2), .val (.int p3), .val (.int p4), .val (.int p5), .val (.int (5 : Int32)), .val (.double (FP.l2d v0)), .second, .val (.double (FP.l2d v1)), .second, .val (.double (FP.l2d v2)), .second, .val (.double (FP.l2d v3)), .second, .val (.double (FP.l2d v4)), .second, .val (.ref b40), .val (.double (FP.l2d v2)), .second, .val (.double (FP.l2d v2)), .second] [(.double (FP.l2d v2))])) _
      refine XS.dload X51.here hx rfl (hb hby at_195) rfl ?_
      show Steps p.tables e below (T51.setTop (mkF m 197 #[.val (.int p0), .val (.int p1), .val (.int p2), .val (.int p3), .val (.int p4), .val (.int p5), .val (.int (5 : Int32)), .val (.double (FP.l2d v0)), .second, .val (.double (FP.l2d v1)), .second, .val (.double (FP.l2d v2)), .second, .val (.double (FP.l2d v3)), .second, .val (.double (FP.l2d v4)), .second, .val (.ref b40), .val (.double (FP.l2d v2)), .second, .val (.double (FP.l2d v2)), .second] [(.double (FP.l2d v2)), (.double (FP.l2d v2))])) _
      refine XS.dcmpS X51.here hx rfl (hb hby at_197) rfl (dcmpV_self (nn_w rfl) _) ?_
      show Steps p.tables e below (T51.setTop (mkF m 198 #[.val (.int p0), .val (.int p1), .val (.int p2), .val (.int p3), .val (.int p4), .val (.int p5), .val (.int (5 : Int32)), .val (.double (FP.l2d v0)), .second, .val (.double (FP.l2d v1)), .second, .val (.double (FP.l2d v2)), .second, .val (.double (FP.l2d v3)), .second, .val (.double (FP.l2d v4)), .second, .val (.ref b40), .val (.double (FP.l2d v2)), .second, .val (.double (FP.l2d v2)), .second] [(.int (0 : Int32))])) _
      refine XS.ifNo X51.here hx rfl (hb hby at_198) rfl ((if0 _ _).trans (teq (rfl : (0 : Int32) = (0 : Int32))).2) ?_
      show Steps p.tables e below (T51.setTop (mkF m 201 #[.val (.int p0), .val (.int p1), .val (.int p2), .val (.int p3), .val (.int p4), .val (.int p5), .val (.int (5 : Int32)), .val (.double (FP.l2d v0)), .second, .val (.double (FP.l2d v1)), .second, .val (.double (FP.l2d v2)), .second, .val (.double (FP.l2d v3)), .second, .val (.double (FP.l2d v4)), .second, .val (.ref b40), .val (.double (FP.l2d v2)), .second, .val (.double (FP.l2d v2)), .second] [])) _
      refine XS.iconst X51.here hx rfl (hb hby at_201) ?_
      show Steps p.tables e below (T51.setTop (mkF m 202 #[.val (.int p0), .val (.int p1), .val (.int p2), .val (.int p3), .val (.int p4), .val (.int p5), .val (.int (5 : Int32)), .val (.double (FP.l2d v0)), .second, .val (.double (FP.l2d v1)), .second, .val (.double (FP.l2d v2)), .second, .val (.double (FP.l2d v3)), .second, .val (.double (FP.l2d v4)), .second, .val (.ref b40), .val (.double (FP.l2d v2)), .second, .val (.double (FP.l2d v2)), .second] [(.int (1 : Int32))])) _
      refine XS.goto X51.here hx rfl (pc0 := 202) (pc' := 206) rfl (hb hby at_202) (by decide) (by decide) ?_
      show Steps p.tables e below (T51.setTop (mkF m 206 #[.val (.int p0), .val (.int p1), .val (.int p2), .val (.int p3), .val (.int p4), .val (.int p5), .val (.int (5 : Int32)), .val (.double (FP.l2d v0)), .second, .val (.double (FP.l2d v1)), .second, .val (.double (FP.l2d v2)), .second, .val (.double (FP.l2d v3)), .second, .val (.double (FP.l2d v4)), .second, .val (.ref b40), .val (.double (FP.l2d v2)), .second, .val (.double (FP.l2d v2)), .second] [(.int (1 : Int32))])) _
      exact retN X51 hx (t := .boolean) Bd.returns (by simp) (hb hby at_206) hr
    · show rm0Q Z p0 p1 p2 p3 p4 p5 h0 n0 _ T51.heap _
      rw [e51q]
      exact ⟨rfl, N51⟩
set_option maxRecDepth 65536 in
set_option maxHeartbeats 40000000 in
theorem comes_1 {Post : Tables → Env → Array Value → State → Outcome → State → Prop} (hpost : ∀ tb e args s v u, (limb_1_1.after args s (.returned v) u = true ∧ limb_1_2.after args s (.returned v) u = true ∧ True) → FrameEnd s (.returned v) u (Jvm.fieldLocs frame_1_writes args s ++ Jvm.arrayLocs frame_1_arrays args s ++ Jvm.staticLocs frame_1_statics s) 16 128 → Post tb e args s (.returned v) u) :
    ArmFor flags0 classFile x code maxLocals ret World_1 tables_1 room_1 Calls_1 rest_1 Pre_1 Post := by
  intro l hfl _ _ p e ha hc hk s m args below hf hA hF happ hP
  obtain ⟨hcalls, hrest, hpre⟩ := hP
  obtain ⟨-, -, -, hnamed, -, -, -, hat⟩ := (Spec.applies_iff hf).mp happ
  obtain ⟨hg, hn⟩ := and_e (Cond.before_iff.mp (show (Jvm.Cond.and given_1 narrow_1).before args s = true from hpre))
  obtain ⟨g1, g2⟩ := and_e hg
  obtain ⟨g3, g4⟩ := and_e g2
  obtain ⟨g5, g6⟩ := and_e g4
  obtain ⟨g7, g8⟩ := and_e g6
  obtain ⟨g9, g10⟩ := and_e g8
  obtain ⟨g11, g12⟩ := and_e g10
  obtain ⟨w0, w1, w2, w3, w4, w5, rfl⟩ : ∃ w0 w1 w2 w3 w4 w5 : Value, args = #[w0, w1, w2, w3, w4, w5] := by
    have hs : args.size = 6 := by simpa [Cond.value, given_1] using g1
    obtain ⟨L⟩ := args
    match L, hs with
    | [w0, w1, w2, w3, w4, w5], _ => exact ⟨w0, w1, w2, w3, w4, w5, rfl⟩
  have hw := fun d (hd : d ∈ tables_1) => atoms_spec (ws := Jvm.Cond.code x code maxLocals ret :: tables_1) hat d (List.mem_cons_of_mem _ hd)
  have hfit : Fit s := fun {y c} hc i hi => by
    obtain ⟨ha, rfl⟩ := Array.getElem?_eq_some_iff.mp hc
    have q := List.all_eq_true.mp ((Array.all_eq_true_iff_forall_mem.mp hF) _ (Array.getElem_mem ha)) i (List.mem_range.mpr hi)
    simpa [Array.getElem?_eq_getElem hi] using q
  obtain ⟨i0, ei0⟩ := is_v g3
  obtain rfl : w0 = (.int i0) := Option.some.inj ei0
  obtain ⟨i1, ei1⟩ := is_v g5
  obtain rfl : w1 = (.int i1) := Option.some.inj ei1
  obtain ⟨i2, ei2⟩ := is_v g7
  obtain rfl : w2 = (.int i2) := Option.some.inj ei2
  obtain ⟨i3, ei3⟩ := is_v g9
  obtain rfl : w3 = (.int i3) := Option.some.inj ei3
  obtain ⟨i4, ei4⟩ := is_v g11
  obtain rfl : w4 = (.int i4) := Option.some.inj ei4
  obtain ⟨i5, ei5⟩ := is_v g12
  obtain rfl : w5 = (.int i5) := Option.some.inj ei5
  obtain ⟨n, o, h1, h2, h3, _, L, rfl, ⟨rfl, N⟩, hq⟩ := rm0 l s _ hw tables_1 i0 i1 i2 i3 i4 i5 s.heap s.heap.size (Nat.le_refl _) p e ha hc hk s m _ below hf ((Spec.applies_iff_loose hf).mp happ).1 ⟨rfl, State.Warmed39.refl s, rfl⟩ trivial
  refine ⟨n, _, h1, h2, h3, hpost _ _ _ _ _ _ ⟨Cond.after_iff.mpr rfl, Cond.after_iff.mpr (eq_i res_at (Term.int_eval (1)) rfl), trivial⟩ ⟨hq.1, hq.2.1, (hq.2.2.sift fun y hy => Or.inr (N y hy)).mono (by decide) (by decide)⟩⟩
theorem main_1_1 : Claimed_1_1 := comes_1 fun _ _ _ _ _ _ h hF => ⟨h.1, hF⟩
theorem main_1_2 : Claimed_1_2 := comes_1 fun _ _ _ _ _ _ h hF => ⟨h.2.1, hF⟩
end Jvm.Pilot.@@N@@
namespace Jvm.Pilot.@@N@@
open Jvm Jvm.ClassFile Sem Op Lib Jvm.Free Jvm.Stand Jvm.Pilot.@@N@@.Jvm.D
/-! MADE BY PROGRAM (witnessworld.py) out of the Statement's table words and the real class files: 11 classes; the members and pool entries that the words name. The judged class is class 1, her method 1. -/
namespace start1
open Jvm.ClassFile
def u (s : String) : CpInfo := .utf8 (stringToUtf16 s)
/-- a pool by its gaps: so many unusable entries, then the entry; so many at the end -/
def gap : Nat → List CpInfo → List CpInfo
  | 0, r => r
  | n + 1, r => .unusable :: gap n r
def poolList (es : List (Nat × CpInfo)) (last : Nat) : List CpInfo := es.foldr (fun e r => gap e.1 (e.2 :: r)) (gap last [])
def pool (es : List (Nat × CpInfo)) (last : Nat) : Array CpInfo := ⟨poolList es last⟩
def fileOf (pool : Array CpInfo) (this : Nat) (attrs : Array Attribute := #[]) (ms : Array MethodInfo := #[]) (fl : Nat := 33) (sup : Nat := 0) (ifs : Array Nat := #[]) (fds : Array FieldInfo := #[]) : ClassFile where
  minorVersion := 0
  majorVersion := 65
  constantPool := pool
  accessFlags := fl
  thisClass := this
  superClass := sup
  interfaces := ifs
  fields := fds
  methods := ms
  attributes := attrs
def plain (name : String) (sup : Option ClassId) : Class where
  name := name
  kind := .ordinary
  loader := none
  accessFlags := 33
  super := sup
  interfaces := #[]
  cf := none
  fields := #[]
  methods := #[]
  instanceTypes := #[]
  staticTypes := #[]
  resolved := #[]
  callSites := []
  init := .initialized
  statics := none
  mirror := none

def pool0 : Array CpInfo := pool [(5, u "<init>"), (0, u "()V"), (1, .class_ 10), (1, u "java/lang/Object")] 113

def k0m0 : Method := { name := "<init>", desc := "()V", sig := { parameters := [], returnType := none }, accessFlags := 1, code := none }
/-- java/lang/Object -/
def k0 : Class := { plain "java/lang/Object" none with
  accessFlags := 33
  interfaces := #[]
  cf := some (fileOf pool0 8 #[] #[{ accessFlags := 1, nameIndex := 5, descriptorIndex := 6, attributes := #[] }] 33 0 #[] #[])
  fields := #[]
  methods := #[k0m0]
  instanceTypes := #[]
  staticTypes := #[]
  resolved := Array.replicate 124 none
  statics := none }

def pool1 : Array CpInfo := pool [(2, .class_ 4), (1, u "java/lang/Object"), (0, u "<init>"), (0, u "()V"), (0, .integer 2147483647), (0, .integer 1048575), (0, .methodref 10 11), (0, .class_ 12), (0, .nameAndType 13 14), (0, u "com/example/gyre/bench/Handoff"), (0, u "median"), (0, u "([D)D"), (0, .double 4611686018427387904), (1, .class_ 18), (0, u "com/example/gyre/bench/HandoffMedianPinLaw"), (2, u "law"), (0, u "(IIIIII)Z")] 5

def k1m0 : Method := { name := "<init>", desc := "()V", sig := { parameters := [], returnType := none }, accessFlags := 2, code := none }
def k1c1 : Code := { maxStack := 4, maxLocals := 22, code := code, exceptionTable := #[], attributes := #[] }
def k1m1 : Method := { name := "law", desc := "(IIIIII)Z", sig := { parameters := [.int, .int, .int, .int, .int, .int], returnType := some .boolean }, accessFlags := 9, code := some k1c1 }
/-- com/example/gyre/bench/HandoffMedianPinLaw -/
def k1 : Class := { plain "com/example/gyre/bench/HandoffMedianPinLaw" (some 0) with
  accessFlags := 49
  interfaces := #[]
  cf := some (fileOf pool1 17 #[] #[{ accessFlags := 2, nameIndex := 5, descriptorIndex := 6, attributes := #[] }, { accessFlags := 9, nameIndex := 21, descriptorIndex := 22, attributes := #[] }] 49 2 #[] #[])
  fields := #[]
  methods := #[k1m0, k1m1]
  instanceTypes := #[]
  staticTypes := #[]
  resolved := Array.replicate 28 none
  statics := none }

def pool2 : Array CpInfo := pool [(2, .class_ 4), (1, u "java/lang/Object"), (0, u "<init>"), (0, u "()V"), (6, .class_ 14), (0, u "com/example/gyre/bench/Handoff"), (115, .class_ 131), (0, u "com/example/gyre/bench/Handoff$Pair"), (36, u "median"), (0, u "([D)D"), (7, .double 4611686018427387904), (34, .class_ 213), (0, u "com/example/gyre/bench/Handoff$Counter"), (174, u "PRODUCERS"), (0, u "I"), (2, u "WARMUP_PAIRS"), (1, u "DEFAULT_PAIRS"), (1, u "DEFAULT_TASKS"), (0, u "DEFAULT_IO_RATIO"), (1, u "MAX_IO_RATIO"), (1, u "RUN_TIMEOUT_SECONDS"), (1, u "GROUP_CLASS"), (0, u "Ljava/lang/String;")] 88

def k2m0 : Method := { name := "<init>", desc := "()V", sig := { parameters := [], returnType := none }, accessFlags := 2, code := none }
def k2c1 : Code := { maxStack := 4, maxLocals := 2, code := prog_6_method_5_code, exceptionTable := #[], attributes := #[] }
def k2m1 : Method := { name := "median", desc := "([D)D", sig := { parameters := [(.array .double)], returnType := some .double }, accessFlags := 8, code := some k2c1 }
/-- com/example/gyre/bench/Handoff -/
def k2 : Class := { plain "com/example/gyre/bench/Handoff" (some 0) with
  accessFlags := 49
  interfaces := #[]
  cf := some (fileOf pool2 13 #[.nestMembers #[212, 130]] #[{ accessFlags := 2, nameIndex := 5, descriptorIndex := 6, attributes := #[] }, { accessFlags := 8, nameIndex := 168, descriptorIndex := 169, attributes := #[] }] 49 2 #[] #[{ accessFlags := 24, nameIndex := 388, descriptorIndex := 389, attributes := #[] }, { accessFlags := 24, nameIndex := 392, descriptorIndex := 389, attributes := #[] }, { accessFlags := 26, nameIndex := 394, descriptorIndex := 389, attributes := #[] }, { accessFlags := 26, nameIndex := 396, descriptorIndex := 389, attributes := #[] }, { accessFlags := 26, nameIndex := 397, descriptorIndex := 389, attributes := #[] }, { accessFlags := 26, nameIndex := 399, descriptorIndex := 389, attributes := #[] }, { accessFlags := 26, nameIndex := 401, descriptorIndex := 389, attributes := #[] }, { accessFlags := 26, nameIndex := 403, descriptorIndex := 404, attributes := #[] }])
  fields := #[{ name := "PRODUCERS", type := .int, accessFlags := 24, slot := 0, constantValue := 0 }, { name := "WARMUP_PAIRS", type := .int, accessFlags := 24, slot := 1, constantValue := 0 }, { name := "DEFAULT_PAIRS", type := .int, accessFlags := 26, slot := 2, constantValue := 0 }, { name := "DEFAULT_TASKS", type := .int, accessFlags := 26, slot := 3, constantValue := 0 }, { name := "DEFAULT_IO_RATIO", type := .int, accessFlags := 26, slot := 4, constantValue := 0 }, { name := "MAX_IO_RATIO", type := .int, accessFlags := 26, slot := 5, constantValue := 0 }, { name := "RUN_TIMEOUT_SECONDS", type := .int, accessFlags := 26, slot := 6, constantValue := 0 }, { name := "GROUP_CLASS", type := (.object "java/lang/String"), accessFlags := 26, slot := 7, constantValue := 0 }]
  methods := #[k2m0, k2m1]
  instanceTypes := #[]
  staticTypes := #[.int, .int, .int, .int, .int, .int, .int, (.object "java/lang/String")]
  resolved := Array.replicate 493 none
  statics := none }

def pool3 : Array CpInfo := pool [(1, u "java/lang/Cloneable"), (0, .class_ 1), (0, u "java/lang/Object"), (0, .class_ 3)] 3

/-- java/lang/Cloneable -/
def k3 : Class := { plain "java/lang/Cloneable" (some 0) with
  accessFlags := 1537
  interfaces := #[]
  cf := some (fileOf pool3 2 #[] #[] 1537 4 #[] #[])
  fields := #[]
  methods := #[]
  instanceTypes := #[]
  staticTypes := #[]
  resolved := Array.replicate 8 none
  statics := none }

def pool4 : Array CpInfo := pool [(1, u "java/io/Serializable"), (0, .class_ 1), (0, u "java/lang/Object"), (0, .class_ 3)] 3

/-- java/io/Serializable -/
def k4 : Class := { plain "java/io/Serializable" (some 0) with
  accessFlags := 1537
  interfaces := #[]
  cf := some (fileOf pool4 2 #[] #[] 1537 4 #[] #[])
  fields := #[]
  methods := #[]
  instanceTypes := #[]
  staticTypes := #[]
  resolved := Array.replicate 8 none
  statics := none }

/-- the primitive byte -/
def k5 : Class := { plain "byte" none with kind := .primitive 'B', accessFlags := 0x411 }
/-- [B -/
def k6 : Class := { plain "[B" (some 0) with kind := .array 5 .byte, interfaces := #[3, 4], accessFlags := 1041 }

/-- the primitive double -/
def k7 : Class := { plain "double" none with kind := .primitive 'D', accessFlags := 0x411 }
/-- [D -/
def k8 : Class := { plain "[D" (some 0) with kind := .array 7 .double, interfaces := #[3, 4], accessFlags := 1041 }

/-- the primitive int -/
def k9 : Class := { plain "int" none with kind := .primitive 'I', accessFlags := 0x411 }
/-- [I -/
def k10 : Class := { plain "[I" (some 0) with kind := .array 9 .int, interfaces := #[3, 4], accessFlags := 1041 }

def heap : Heap := #[]
def classes : Array Class := #[k0, k1, k2, k3, k4, k5, k6, k7, k8, k9, k10]
def interned : List (Array UInt16 × Addr) := []
def slotsUsed : Nat := 0
def theMethod : MethodId := ⟨1, 1⟩
def args0 : Array Value := #[.int 5, .int 3, .int 1, .int 5, .int 3, .int 1]
def aboutOver (below : List Frame) : State where
  vm := { classes := classes, interned := interned.toArray }
  heap := heap
  slotsUsed := slotsUsed
  threads := #[{ frames := .invoking theMethod args0 :: below }]
def below0 : List Frame := [.native { method := ⟨0, 0⟩, args := #[] }]
def about1 : State := aboutOver below0
def p0 : Program := .bare "" "" ""
def e0 : Env := launch0.env 0 0 0
theorem w_frames : about1.frames = Frame.invoking theMethod args0 :: below0 := rfl
set_option maxRecDepth 65536 in
theorem w_args : argsFit about1.vm theMethod args0 = true := by decide +kernel
set_option maxRecDepth 65536 in
theorem w_heap : heapFits about1 = true := by decide +kernel
set_option maxRecDepth 65536 in
theorem w_runnable : about1.curStatus? = some .runnable := by decide +kernel
set_option maxRecDepth 65536 in
theorem w_alone : about1.alone = true := by decide +kernel
set_option maxRecDepth 65536 in
theorem w_named : about1.methodNamed? x = some theMethod := by decide +kernel
set_option maxRecDepth 65536 in
theorem w_hears : about1.hears theMethod below0 = true := by decide +kernel
set_option maxRecDepth 65536 in
theorem w_ripe : about1.ripe theMethod args0 below0 = true := by decide +kernel
theorem w_running : about1.status = .running := rfl
set_option maxRecDepth 65536 in
theorem w_room : about1.hasRoom e0.platform room_1 = true :=
  launch0.hasRoom_least _ room_1 (by decide +kernel) (by decide +kernel) (by decide +kernel) (by decide +kernel) (by decide +kernel) (by decide +kernel)
theorem allAtoms_all (ts : List Jvm.Cond) (a : Array Jvm.Value) (st : Jvm.State) : (allAtoms ts).before a st = ts.all (fun c => c.before a st) := by
  induction ts with
  | nil => rfl
  | cons c t ih =>
    show (Jvm.Cond.and c (allAtoms t)).before a st = _
    rw [Jvm.Cond.before_and, ih, List.all_cons]
def words1 : List Jvm.Cond := Jvm.Cond.code x code maxLocals ret :: tables_1
/-- a 'code' word, met by the world's own term for the bytes: nothing is compared byte by byte -/
theorem code_word {y : MethodName} {bytes : ByteArray} {mx : Nat} {rt : Option FieldType} {a : Array Value} {s : State} {m : MethodId} {meth : Method} {c : Code} (h1 : s.methodNamed? y = some m) (h2 : s.vm.method? m = some meth) (h3 : meth.code = some c) (h4 : c.code = bytes)
    (h5 : (c.maxLocals == mx && c.exceptionTable.isEmpty && decide (c.maxStack ≤ mostOperands) && decide (meth.sig.returnType = rt) && !meth.locks && decide (parseMethodDescriptor y.desc = some meth.sig)) = true) : (Jvm.Cond.code y bytes mx rt).before a s = true := by
  simp only [Bool.and_eq_true, beq_iff_eq, Bool.not_eq_true', decide_eq_true_eq] at h5
  obtain ⟨⟨⟨⟨⟨g1, g2⟩, g3⟩, g4⟩, g5⟩, g6⟩ := h5
  simp [Cond.before, Cond.holds, Cond.value, h1, h2, h3, h4, g1, g2, g3, g4, g5, g6]
def isCode : Jvm.Cond → Bool
  | .code _ _ _ _ => true
  | _ => false
theorem all_split {L : List Jvm.Cond} {P : Jvm.Cond → Bool} (h1 : L.all (fun c => isCode c || P c) = true) (h2 : ∀ c ∈ L.filter isCode, P c = true) : L.all P = true := by
  refine List.all_eq_true.mpr fun c hc => ?_
  have h := List.all_eq_true.mp h1 c hc
  rcases Bool.eq_false_or_eq_true (isCode c) with hi | hi
  · exact h2 c (List.mem_filter.mpr ⟨hc, hi⟩)
  · simpa [hi] using h
set_option maxRecDepth 65536 in
theorem w_c0 : (Jvm.Cond.code x code maxLocals ret).before args0 about1 = true := code_word (m := ⟨1, 1⟩) (meth := k1m1) (c := k1c1) (by decide +kernel) rfl rfl rfl (by decide +kernel)
set_option maxRecDepth 65536 in
theorem w_c1 : (Jvm.Cond.code ({ cls := "com/example/gyre/bench/Handoff", name := "median", desc := "([D)D" } : Jvm.MethodName) prog_6_method_5_code (2 : Nat) (Option.some Jvm.ClassFile.FieldType.double)).before args0 about1 = true := code_word (m := ⟨2, 1⟩) (meth := k2m1) (c := k2c1) (by decide +kernel) rfl rfl rfl (by decide +kernel)
def codes1 : List Jvm.Cond := [Jvm.Cond.code x code maxLocals ret, Jvm.Cond.code ({ cls := "com/example/gyre/bench/Handoff", name := "median", desc := "([D)D" } : Jvm.MethodName) prog_6_method_5_code (2 : Nat) (Option.some Jvm.ClassFile.FieldType.double)]
set_option maxRecDepth 65536 in
theorem codes_eq : words1.filter isCode = codes1 := rfl
theorem w_codes : ∀ c ∈ words1.filter isCode, c.before args0 about1 = true := by
  rw [codes_eq]
  intro c hc
  simp only [codes1, List.mem_cons, List.not_mem_nil, or_false] at hc
  rcases hc with rfl | rfl
  · exact w_c0
  · exact w_c1
set_option maxRecDepth 65536 in
theorem w_t1 : words1.all (fun c => isCode c || c.before args0 about1) = true := by decide +kernel
theorem w_tables : (allAtoms (Jvm.Cond.code x code maxLocals ret :: tables_1)).before args0 about1 = true := by
  rw [allAtoms_all]
  show words1.all (fun c => c.before args0 about1) = true
  refine all_split ?_ w_codes
  rw [w_t1]
set_option maxRecDepth 65536 in
theorem w_case : (Jvm.Cond.and given_1 narrow_1).before args0 about1 = true := by decide +kernel
theorem w_applies : (headSpec (Jvm.Cond.code x code maxLocals ret :: tables_1) room_1).applies x e0.platform about1 = true :=
  (Spec.applies_iff w_frames).mpr ⟨w_running, w_runnable, w_alone, w_named, w_hears, w_ripe, w_room, w_tables⟩
theorem atStart : AtStart classFile x code maxLocals ret World_1 tables_1 room_1 Calls_1 rest_1 Pre_1 launch0 p0 e0 about1 theMethod args0 below0 :=
  ⟨lists_1, trivial, launch0.admits_env _ _ _, launch0.least_env, fairChoices_fair.cas, fairChoices_fair.clock, w_frames, w_args, w_heap, w_applies, trivial, trivial, w_case⟩
end start1
theorem witness_1 : WitnessClaimed_1 := ⟨start1.p0, start1.e0, start1.about1, start1.theMethod, start1.args0, start1.below0, start1.atStart⟩
end Jvm.Pilot.@@N@@
