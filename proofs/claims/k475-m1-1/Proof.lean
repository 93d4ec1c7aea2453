import JvmDerived
import JvmDerived.Pilot.@@N@@Statement
import JvmDerived.Pilot.@@N@@Code
set_option linter.unusedVariables false
set_option linter.unusedSimpArgs false
namespace Jvm.RoadKit
open Sem ClassFile Op Lib Jvm.Stand Jvm.Free Jvm.LawKit
section New
variable {p : Program} {l : Launch} {e : Env} {R : Room} {s : State} {m : MethodId} {args : Array Value} {below : List Frame} {meth : Method} {c : Code} {T : State} {locs : List Loc} {cells slots : Nat}
theorem retI (X : Stand p l e R s m args below meth c T locs cells slots) (hx : p.tables.exec = Jvm.exec) {pc : Nat} {Ls : Array Slot} {z : Int32} {rest : List Value} (hret : meth.sig.returnType = some .int) (hd : decode c.code pc = .ok (.ireturn, 1)) {fs : List Frame}
    (hl : ∀ (f : JFrame) (acts : List Action), f.method = m → f.locked = none → f.entered = [] → (doReturn e (T.setTop f) acts (some (.int z))).1 = T.setFrames fs) : Steps p.tables e below (T.setTop (mkF m pc Ls (.int z :: rest))) (T.setFrames fs) := by
  have hm' : T.vm.method? m = some meth := X.method'
  have hn : narrow .int (.int z) = .int z := rfl
  show Steps p.tables e below (T.setTop { method := m, pc := pc, locals := Ls, stack := _ :: rest, locked := none }) _
  jvm_step X.here [X.here.top, hx, hd, hm', hret, hn]
  first | (intro acts; rw [hl _ acts rfl rfl rfl]) | rw [hl _ _ rfl rfl rfl]
  exact Steps.refl _
end New
end Jvm.RoadKit
namespace Jvm.Pilot.@@N@@
open Jvm Jvm.ClassFile Sem Op Lib Jvm.Free Jvm.Stand Jvm.LawKit Jvm.RoadKit Bundle Jvm.Pilot.@@N@@.Jvm.D
def own_irem (a b : Int32) : Int32 := a - (a / b) * b
def own_lrem (a b : Int64) : Int64 := a - (a / b) * b
theorem own_ltT {u c d : Int32} (h : u < c) (k : c.toInt ≤ d.toInt) : u < d := by rw [Int32.lt_iff_toInt_lt] at *; omega
theorem own_ltT' {u c d : Int32} (h : ¬ c < u) (k : c.toInt < d.toInt) : u < d := by rw [Int32.lt_iff_toInt_lt] at *; omega
theorem own_ltF {u c d : Int32} (h : ¬ u < c) (k : d.toInt ≤ c.toInt) : ¬ u < d := by rw [Int32.lt_iff_toInt_lt] at *; omega
theorem own_ltF' {u c d : Int32} (h : c < u) (k : d.toInt ≤ c.toInt + 1) : ¬ u < d := by rw [Int32.lt_iff_toInt_lt] at *; omega
theorem own_gtT {u c d : Int32} (h : c < u) (k : d.toInt ≤ c.toInt) : d < u := by rw [Int32.lt_iff_toInt_lt] at *; omega
theorem own_gtT' {u c d : Int32} (h : ¬ u < c) (k : d.toInt < c.toInt) : d < u := by rw [Int32.lt_iff_toInt_lt] at *; omega
theorem own_gtF {u c d : Int32} (h : u < c) (k : c.toInt ≤ d.toInt + 1) : ¬ d < u := by rw [Int32.lt_iff_toInt_lt] at *; omega
theorem own_gtF' {u c d : Int32} (h : ¬ c < u) (k : c.toInt ≤ d.toInt) : ¬ d < u := by rw [Int32.lt_iff_toInt_lt] at *; omega
def own_at (cs : List Int32) (j : Int32) : Int32 := cs.getD j.toNatClampNeg 0
theorem own_getD (cs : List Int32) (n : Nat) : (cs.map Value.int).getD n (.int (0 : Int32)) = .int (cs.getD n 0) := by
  simp only [List.getD_eq_getElem?_getD, List.getElem?_map]
  cases cs[n]? <;> rfl
section OwnIdx
variable {i to n k m : Int32}
theorem own_in0 (h0 : ¬ i < (0 : Int32)) (h1 : i < to) (h2 : ¬ (8 : Int32) < to) : ¬ i < 0 ∧ i < (8 : Int32) := by
  refine ⟨h0, ?_⟩
  rw [Int32.lt_iff_toInt_lt] at *
  omega
theorem own_inS (h0 : ¬ i < (0 : Int32)) (h1 : i < to) (h2 : ¬ (8 : Int32) < to) (hg : (i + n) < to) (a : 0 ≤ k.toInt) (b : k.toInt ≤ n.toInt) (c : n.toInt ≤ 3) : ¬ (i + k) < 0 ∧ (i + k) < (8 : Int32) := by
  have e1 := c_iadd i n
  have e2 := c_iadd i k
  have r1 := rng32 (i + n)
  have r2 := rng32 (i + k)
  simp only [Int32.lt_iff_toInt_lt, show (0 : Int32).toInt = 0 by decide, show (8 : Int32).toInt = 8 by decide] at *
  omega
theorem own_inU (h0 : ¬ i < (0 : Int32)) (h1 : i < to) (h2 : ¬ (8 : Int32) < to) (hg : n < (to - i)) (a : 0 ≤ k.toInt) (b : k.toInt ≤ n.toInt) (c : n.toInt ≤ 3) : ¬ (i + k) < 0 ∧ (i + k) < (8 : Int32) := by
  have e1 := c_isub to i
  have e2 := c_iadd i k
  have r1 := rng32 (to - i)
  have r2 := rng32 (i + k)
  simp only [Int32.lt_iff_toInt_lt, show (0 : Int32).toInt = 0 by decide, show (8 : Int32).toInt = 8 by decide] at *
  omega
end OwnIdx

theorem d1_0 : decode jdk_29_method_69_code 0 = .ok (.iload_n 0, 1) := by decide +kernel
theorem d1_1 : decode jdk_29_method_69_code 1 = .ok (.iload_n 1, 1) := by decide +kernel
theorem d1_2 : decode jdk_29_method_69_code 2 = .ok (.if_icmp .gt 7, 3) := by decide +kernel
theorem d1_5 : decode jdk_29_method_69_code 5 = .ok (.iload_n 0, 1) := by decide +kernel
theorem d1_6 : decode jdk_29_method_69_code 6 = .ok (.goto 4, 3) := by decide +kernel
theorem d1_9 : decode jdk_29_method_69_code 9 = .ok (.iload_n 1, 1) := by decide +kernel
theorem d1_10 : decode jdk_29_method_69_code 10 = .ok (.ireturn, 1) := by decide +kernel
theorem ef_rm1 (m : MethodId) (p0 : Int32) (p1 : Int32) : entryFrame m #[(.int p0), (.int p1)] 2 = mkF m 0 #[.val (.int p0), .val (.int p1)] [] := by first | (simp [entryFrame, mkF, argsToLocals, Value.category]; done) | rfl
def own_f1 (p0 : Int32) (p1 : Int32) : Int32 :=
  if p1 < p0 then p1
  else p0
def rm1Q (Z : State) (p0 : Int32) (p1 : Int32) (h0 : Heap) (n0 : Nat) (v : Option Value) (h : Heap) (L : List Loc) : Prop := v = some (.int (own_f1 p0 p1)) ∧ Fr n0 L ∧ h = h0
set_option maxRecDepth 65536 in
set_option maxHeartbeats 40000000 in
theorem rm1 (l : Launch) (Z : State) (aw : Array Value) (hw : ∀ d ∈ tables_1, d.before aw Z = true) (ws : List Jvm.Cond) (p0 : Int32) (p1 : Int32) (h0 : Heap) (n0 : Nat) (Z0 : n0 ≤ h0.size) :
    MetFree l (⟨"java/lang/Math", "min", "(II)I"⟩ : MethodName) (head1 (Jvm.Cond.code (⟨"java/lang/Math", "min", "(II)I"⟩ : MethodName) jdk_29_method_69_code 2 (some .int) :: ws) ({ frames := 0, cells := 0, slots := 0, locals := 0 } : Room)) (fun a U => a = #[(.int p0), (.int p1)] ∧ Z.Warmed39 U.vm ∧ U.heap = h0) (fun _ _ _ _ _ => True) (fun _ U o U' => ∃ v L, o = .returned v ∧ rm1Q Z p0 p1 h0 n0 v U'.heap L ∧ FrameEnd U o U' L ({ frames := 0, cells := 0, slots := 0, locals := 0 } : Room).cells ({ frames := 0, cells := 0, slots := 0, locals := 0 } : Room).slots) := by
  refine MetFree.of_bodySF (Jvm.Free.JP.mathPlain rfl (by decide +kernel)) hisR ?_
  intro p e s m args below meth c s₁ Bd hml0 hP hK
  obtain ⟨rfl, hZ, hh⟩ := hP
  have hx := Bd.exec
  have hby := Bd.bytes
  have hml : c.maxLocals = 2 := hml0
  have hown : s.vm.findClass "java/lang/Math" = some m.cls := findClass_of_methodNamed Bd.named
  have hnm := (name_of_methodNamed Bd.named Bd.method).1
  have X0 : Stand p l e ({ frames := 0, cells := 0, slots := 0, locals := 0 } : Room) s m #[(.int p0), (.int p1)] below meth c s₁ [] 0 0 := Stand.of_body Bd
  have e0 : s₁.heap = h0 := by rw [← hh, Bd.state]; rfl
  have N0 := Fr.nil n0
  have pre0 : ∀ t, Steps p.tables e below (s₁.setTop (mkF m 0 #[.val (.int p0), .val (.int p1)] [])) t → Steps p.tables e below (s₁.setTop (entryFrame m #[(.int p0), (.int p1)] 2)) t := fun t k => castTop (ef_rm1 m p0 p1) k
  have pre1 : ∀ t, Steps p.tables e below (s₁.setTop (mkF m 2 #[.val (.int p0), .val (.int p1)] [(.int p1), (.int p0)])) t → Steps p.tables e below (s₁.setTop (entryFrame m #[(.int p0), (.int p1)] 2)) t := fun t k => pre0 t (by
    show Steps p.tables e below (s₁.setTop (mkF m 0 #[.val (.int p0), .val (.int p1)] [])) _
    refine XS.iloadN X0.here hx rfl (hb hby d1_0) rfl ?_
    show Steps p.tables e below (s₁.setTop (mkF m 1 #[.val (.int p0), .val (.int p1)] [(.int p0)])) _
    refine XS.iloadN X0.here hx rfl (hb hby d1_1) rfl ?_
    exact k)
  by_cases hc2_2 : p1 < p0
  · obtain ⟨fs, hr, hrun, hended, hW, hsame⟩ := X0.leave (v := some (.int p1)) (fun h => by rw [Bd.returns] at h; cases h)
    refine ⟨_, _, pre1 _ ?_, hrun, hended, _, _, rfl, ?_, ⟨_, rfl⟩, hW, hsame.mono (by decide) (by decide)⟩
    · show Steps p.tables e below (s₁.setTop (mkF m 2 #[.val (.int p0), .val (.int p1)] [(.int p1), (.int p0)])) _
      refine XS.icmpYes X0.here hx rfl (pc0 := 2) (pc' := 9) rfl (hb hby d1_2) rfl (tlt hc2_2).2.2.1 (by decide) (by decide) ?_
      show Steps p.tables e below (s₁.setTop (mkF m 9 #[.val (.int p0), .val (.int p1)] [])) _
      refine XS.iloadN X0.here hx rfl (hb hby d1_9) rfl ?_
      show Steps p.tables e below (s₁.setTop (mkF m 10 #[.val (.int p0), .val (.int p1)] [(.int p1)])) _
      exact retI X0 hx Bd.returns (hb hby d1_10) hr
    · show rm1Q Z p0 p1 h0 n0 _ s₁.heap _
      rw [e0]
      have hres : own_f1 p0 p1 = p1 := by
        simp only [own_f1, if_pos hc2_2]
      exact ⟨by rw [hres], N0, rfl⟩
  · obtain ⟨fs, hr, hrun, hended, hW, hsame⟩ := X0.leave (v := some (.int p0)) (fun h => by rw [Bd.returns] at h; cases h)
    refine ⟨_, _, pre1 _ ?_, hrun, hended, _, _, rfl, ?_, ⟨_, rfl⟩, hW, hsame.mono (by decide) (by decide)⟩
    · show Steps p.tables e below (s₁.setTop (mkF m 2 #[.val (.int p0), .val (.int p1)] [(.int p1), (.int p0)])) _
      refine XS.icmpNo X0.here hx rfl (hb hby d1_2) rfl (flt hc2_2).2.2.1 ?_
      show Steps p.tables e below (s₁.setTop (mkF m 5 #[.val (.int p0), .val (.int p1)] [])) _
      refine XS.iloadN X0.here hx rfl (hb hby d1_5) rfl ?_
      show Steps p.tables e below (s₁.setTop (mkF m 6 #[.val (.int p0), .val (.int p1)] [(.int p0)])) _
      refine XS.goto X0.here hx rfl (pc0 := 6) (pc' := 10) rfl (hb hby d1_6) (by decide) (by decide) ?_
      show Steps p.tables e below (s₁.setTop (mkF m 10 #[.val (.int p0), .val (.int p1)] [(.int p0)])) _
      exact retI X0 hx Bd.returns (hb hby d1_10) hr
    · show rm1Q Z p0 p1 h0 n0 _ s₁.heap _
      rw [e0]
      have hres : own_f1 p0 p1 = p0 := by
        simp only [own_f1, if_neg hc2_2]
      exact ⟨by rw [hres], N0, rfl⟩
theorem d2_0 : decode jdk_29_method_65_code 0 = .ok (.iload_n 0, 1) := by decide +kernel
theorem d2_1 : decode jdk_29_method_65_code 1 = .ok (.iload_n 1, 1) := by decide +kernel
theorem d2_2 : decode jdk_29_method_65_code 2 = .ok (.if_icmp .lt 7, 3) := by decide +kernel
theorem d2_5 : decode jdk_29_method_65_code 5 = .ok (.iload_n 0, 1) := by decide +kernel
theorem d2_6 : decode jdk_29_method_65_code 6 = .ok (.goto 4, 3) := by decide +kernel
theorem d2_9 : decode jdk_29_method_65_code 9 = .ok (.iload_n 1, 1) := by decide +kernel
theorem d2_10 : decode jdk_29_method_65_code 10 = .ok (.ireturn, 1) := by decide +kernel
theorem ef_rm2 (m : MethodId) (p0 : Int32) (p1 : Int32) : entryFrame m #[(.int p0), (.int p1)] 2 = mkF m 0 #[.val (.int p0), .val (.int p1)] [] := by first | (simp [entryFrame, mkF, argsToLocals, Value.category]; done) | rfl
def own_f2 (p0 : Int32) (p1 : Int32) : Int32 :=
  if p0 < p1 then p1
  else p0
def rm2Q (Z : State) (p0 : Int32) (p1 : Int32) (h0 : Heap) (n0 : Nat) (v : Option Value) (h : Heap) (L : List Loc) : Prop := v = some (.int (own_f2 p0 p1)) ∧ Fr n0 L ∧ h = h0
set_option maxRecDepth 65536 in
set_option maxHeartbeats 40000000 in
theorem rm2 (l : Launch) (Z : State) (aw : Array Value) (hw : ∀ d ∈ tables_1, d.before aw Z = true) (ws : List Jvm.Cond) (p0 : Int32) (p1 : Int32) (h0 : Heap) (n0 : Nat) (Z0 : n0 ≤ h0.size) :
    MetFree l (⟨"java/lang/Math", "max", "(II)I"⟩ : MethodName) (head1 (Jvm.Cond.code (⟨"java/lang/Math", "max", "(II)I"⟩ : MethodName) jdk_29_method_65_code 2 (some .int) :: ws) ({ frames := 0, cells := 0, slots := 0, locals := 0 } : Room)) (fun a U => a = #[(.int p0), (.int p1)] ∧ Z.Warmed39 U.vm ∧ U.heap = h0) (fun _ _ _ _ _ => True) (fun _ U o U' => ∃ v L, o = .returned v ∧ rm2Q Z p0 p1 h0 n0 v U'.heap L ∧ FrameEnd U o U' L ({ frames := 0, cells := 0, slots := 0, locals := 0 } : Room).cells ({ frames := 0, cells := 0, slots := 0, locals := 0 } : Room).slots) := by
  refine MetFree.of_bodySF (Jvm.Free.JP.mathPlain rfl (by decide +kernel)) hisR ?_
  intro p e s m args below meth c s₁ Bd hml0 hP hK
  obtain ⟨rfl, hZ, hh⟩ := hP
  have hx := Bd.exec
  have hby := Bd.bytes
  have hml : c.maxLocals = 2 := hml0
  have hown : s.vm.findClass "java/lang/Math" = some m.cls := findClass_of_methodNamed Bd.named
  have hnm := (name_of_methodNamed Bd.named Bd.method).1
  have X0 : Stand p l e ({ frames := 0, cells := 0, slots := 0, locals := 0 } : Room) s m #[(.int p0), (.int p1)] below meth c s₁ [] 0 0 := Stand.of_body Bd
  have e0 : s₁.heap = h0 := by rw [← hh, Bd.state]; rfl
  have N0 := Fr.nil n0
  have pre0 : ∀ t, Steps p.tables e below (s₁.setTop (mkF m 0 #[.val (.int p0), .val (.int p1)] [])) t → Steps p.tables e below (s₁.setTop (entryFrame m #[(.int p0), (.int p1)] 2)) t := fun t k => castTop (ef_rm2 m p0 p1) k
  have pre1 : ∀ t, Steps p.tables e below (s₁.setTop (mkF m 2 #[.val (.int p0), .val (.int p1)] [(.int p1), (.int p0)])) t → Steps p.tables e below (s₁.setTop (entryFrame m #[(.int p0), (.int p1)] 2)) t := fun t k => pre0 t (by
    show Steps p.tables e below (s₁.setTop (mkF m 0 #[.val (.int p0), .val (.int p1)] [])) _
    refine XS.iloadN X0.here hx rfl (hb hby d2_0) rfl ?_
    show Steps p.tables e below (s₁.setTop (mkF m 1 #[.val (.int p0), .val (.int p1)] [(.int p0)])) _
    refine XS.iloadN X0.here hx rfl (hb hby d2_1) rfl ?_
    exact k)
  by_cases hc2_2 : p0 < p1
  · obtain ⟨fs, hr, hrun, hended, hW, hsame⟩ := X0.leave (v := some (.int p1)) (fun h => by rw [Bd.returns] at h; cases h)
    refine ⟨_, _, pre1 _ ?_, hrun, hended, _, _, rfl, ?_, ⟨_, rfl⟩, hW, hsame.mono (by decide) (by decide)⟩
    · show Steps p.tables e below (s₁.setTop (mkF m 2 #[.val (.int p0), .val (.int p1)] [(.int p1), (.int p0)])) _
      refine XS.icmpYes X0.here hx rfl (pc0 := 2) (pc' := 9) rfl (hb hby d2_2) rfl (tlt hc2_2).1 (by decide) (by decide) ?_
      show Steps p.tables e below (s₁.setTop (mkF m 9 #[.val (.int p0), .val (.int p1)] [])) _
      refine XS.iloadN X0.here hx rfl (hb hby d2_9) rfl ?_
      show Steps p.tables e below (s₁.setTop (mkF m 10 #[.val (.int p0), .val (.int p1)] [(.int p1)])) _
      exact retI X0 hx Bd.returns (hb hby d2_10) hr
    · show rm2Q Z p0 p1 h0 n0 _ s₁.heap _
      rw [e0]
      have hres : own_f2 p0 p1 = p1 := by
        simp only [own_f2, if_pos hc2_2]
      exact ⟨by rw [hres], N0, rfl⟩
  · obtain ⟨fs, hr, hrun, hended, hW, hsame⟩ := X0.leave (v := some (.int p0)) (fun h => by rw [Bd.returns] at h; cases h)
    refine ⟨_, _, pre1 _ ?_, hrun, hended, _, _, rfl, ?_, ⟨_, rfl⟩, hW, hsame.mono (by decide) (by decide)⟩
    · show Steps p.tables e below (s₁.setTop (mkF m 2 #[.val (.int p0), .val (.int p1)] [(.int p1), (.int p0)])) _
      refine XS.icmpNo X0.here hx rfl (hb hby d2_2) rfl (flt hc2_2).1 ?_
      show Steps p.tables e below (s₁.setTop (mkF m 5 #[.val (.int p0), .val (.int p1)] [])) _
      refine XS.iloadN X0.here hx rfl (hb hby d2_5) rfl ?_
      show Steps p.tables e below (s₁.setTop (mkF m 6 #[.val (.int p0), .val (.int p1)] [(.int p0)])) _
      refine XS.goto X0.here hx rfl (pc0 := 6) (pc' := 10) rfl (hb hby d2_6) (by decide) (by decide) ?_
      show Steps p.tables e below (s₁.setTop (mkF m 10 #[.val (.int p0), .val (.int p1)] [(.int p0)])) _
      exact retI X0 hx Bd.returns (hb hby d2_10) hr
    · show rm2Q Z p0 p1 h0 n0 _ s₁.heap _
      rw [e0]
      have hres : own_f2 p0 p1 = p0 := by
        simp only [own_f2, if_neg hc2_2]
      exact ⟨by rw [hres], N0, rfl⟩
theorem d5_0 : decode method_4_code 0 = .ok (.aload_n 0, 1) := by decide +kernel
theorem d5_1 : decode method_4_code 1 = .ok (.iload_n 1, 1) := by decide +kernel
theorem d5_2 : decode method_4_code 2 = .ok (.baload, 1) := by decide +kernel
theorem d5_3 : decode method_4_code 3 = .ok (.sipush 255, 3) := by decide +kernel
theorem d5_6 : decode method_4_code 6 = .ok (.iand, 1) := by decide +kernel
theorem d5_7 : decode method_4_code 7 = .ok (.istore_n 3, 1) := by decide +kernel
theorem d5_8 : decode method_4_code 8 = .ok (.iload_n 3, 1) := by decide +kernel
theorem d5_9 : decode method_4_code 9 = .ok (.sipush 128, 3) := by decide +kernel
theorem d5_12 : decode method_4_code 12 = .ok (.if_icmp .ge 7, 3) := by decide +kernel
theorem d5_15 : decode method_4_code 15 = .ok (.iload_n 1, 1) := by decide +kernel
theorem d5_16 : decode method_4_code 16 = .ok (.iconst 1, 1) := by decide +kernel
theorem d5_17 : decode method_4_code 17 = .ok (.iadd, 1) := by decide +kernel
theorem d5_18 : decode method_4_code 18 = .ok (.ireturn, 1) := by decide +kernel
theorem d5_19 : decode method_4_code 19 = .ok (.iload_n 3, 1) := by decide +kernel
theorem d5_20 : decode method_4_code 20 = .ok (.sipush 224, 3) := by decide +kernel
theorem d5_23 : decode method_4_code 23 = .ok (.iand, 1) := by decide +kernel
theorem d5_24 : decode method_4_code 24 = .ok (.sipush 192, 3) := by decide +kernel
theorem d5_27 : decode method_4_code 27 = .ok (.if_icmp .ne 20, 3) := by decide +kernel
theorem d5_30 : decode method_4_code 30 = .ok (.iconst 1, 1) := by decide +kernel
theorem d5_31 : decode method_4_code 31 = .ok (.istore 4, 2) := by decide +kernel
theorem d5_33 : decode method_4_code 33 = .ok (.iload_n 3, 1) := by decide +kernel
theorem d5_34 : decode method_4_code 34 = .ok (.bipush 31, 2) := by decide +kernel
theorem d5_36 : decode method_4_code 36 = .ok (.iand, 1) := by decide +kernel
theorem d5_37 : decode method_4_code 37 = .ok (.istore 5, 2) := by decide +kernel
theorem d5_39 : decode method_4_code 39 = .ok (.sipush 128, 3) := by decide +kernel
theorem d5_42 : decode method_4_code 42 = .ok (.istore 6, 2) := by decide +kernel
theorem d5_44 : decode method_4_code 44 = .ok (.goto 60, 3) := by decide +kernel
theorem d5_47 : decode method_4_code 47 = .ok (.iload_n 3, 1) := by decide +kernel
theorem d5_48 : decode method_4_code 48 = .ok (.sipush 240, 3) := by decide +kernel
theorem d5_51 : decode method_4_code 51 = .ok (.iand, 1) := by decide +kernel
theorem d5_52 : decode method_4_code 52 = .ok (.sipush 224, 3) := by decide +kernel
theorem d5_55 : decode method_4_code 55 = .ok (.if_icmp .ne 20, 3) := by decide +kernel
theorem d5_58 : decode method_4_code 58 = .ok (.iconst 2, 1) := by decide +kernel
theorem d5_59 : decode method_4_code 59 = .ok (.istore 4, 2) := by decide +kernel
theorem d5_61 : decode method_4_code 61 = .ok (.iload_n 3, 1) := by decide +kernel
theorem d5_62 : decode method_4_code 62 = .ok (.bipush 15, 2) := by decide +kernel
theorem d5_64 : decode method_4_code 64 = .ok (.iand, 1) := by decide +kernel
theorem d5_65 : decode method_4_code 65 = .ok (.istore 5, 2) := by decide +kernel
theorem d5_67 : decode method_4_code 67 = .ok (.sipush 2048, 3) := by decide +kernel
theorem d5_70 : decode method_4_code 70 = .ok (.istore 6, 2) := by decide +kernel
theorem d5_72 : decode method_4_code 72 = .ok (.goto 32, 3) := by decide +kernel
theorem d5_75 : decode method_4_code 75 = .ok (.iload_n 3, 1) := by decide +kernel
theorem d5_76 : decode method_4_code 76 = .ok (.sipush 248, 3) := by decide +kernel
theorem d5_79 : decode method_4_code 79 = .ok (.iand, 1) := by decide +kernel
theorem d5_80 : decode method_4_code 80 = .ok (.sipush 240, 3) := by decide +kernel
theorem d5_83 : decode method_4_code 83 = .ok (.if_icmp .ne 19, 3) := by decide +kernel
theorem d5_86 : decode method_4_code 86 = .ok (.iconst 3, 1) := by decide +kernel
theorem d5_87 : decode method_4_code 87 = .ok (.istore 4, 2) := by decide +kernel
theorem d5_89 : decode method_4_code 89 = .ok (.iload_n 3, 1) := by decide +kernel
theorem d5_90 : decode method_4_code 90 = .ok (.bipush 7, 2) := by decide +kernel
theorem d5_92 : decode method_4_code 92 = .ok (.iand, 1) := by decide +kernel
theorem d5_93 : decode method_4_code 93 = .ok (.istore 5, 2) := by decide +kernel
theorem d5_95 : decode method_4_code 95 = .ok (.ldc 32, 2) := by decide +kernel
theorem d5_97 : decode method_4_code 97 = .ok (.istore 6, 2) := by decide +kernel
theorem d5_99 : decode method_4_code 99 = .ok (.goto 5, 3) := by decide +kernel
theorem d5_102 : decode method_4_code 102 = .ok (.iconst (-1), 1) := by decide +kernel
theorem d5_103 : decode method_4_code 103 = .ok (.ireturn, 1) := by decide +kernel
theorem d5_104 : decode method_4_code 104 = .ok (.iload_n 1, 1) := by decide +kernel
theorem d5_105 : decode method_4_code 105 = .ok (.iload 4, 2) := by decide +kernel
theorem d5_107 : decode method_4_code 107 = .ok (.iadd, 1) := by decide +kernel
theorem d5_108 : decode method_4_code 108 = .ok (.iload_n 2, 1) := by decide +kernel
theorem d5_109 : decode method_4_code 109 = .ok (.if_icmp .lt 5, 3) := by decide +kernel
theorem d5_112 : decode method_4_code 112 = .ok (.iconst (-1), 1) := by decide +kernel
theorem d5_113 : decode method_4_code 113 = .ok (.ireturn, 1) := by decide +kernel
theorem d5_114 : decode method_4_code 114 = .ok (.aload_n 0, 1) := by decide +kernel
theorem d5_115 : decode method_4_code 115 = .ok (.iload_n 1, 1) := by decide +kernel
theorem d5_116 : decode method_4_code 116 = .ok (.iconst 1, 1) := by decide +kernel
theorem d5_117 : decode method_4_code 117 = .ok (.iadd, 1) := by decide +kernel
theorem d5_118 : decode method_4_code 118 = .ok (.baload, 1) := by decide +kernel
theorem d5_119 : decode method_4_code 119 = .ok (.sipush 255, 3) := by decide +kernel
theorem d5_122 : decode method_4_code 122 = .ok (.iand, 1) := by decide +kernel
theorem d5_123 : decode method_4_code 123 = .ok (.istore 7, 2) := by decide +kernel
theorem d5_125 : decode method_4_code 125 = .ok (.iload 7, 2) := by decide +kernel
theorem d5_127 : decode method_4_code 127 = .ok (.sipush 192, 3) := by decide +kernel
theorem d5_130 : decode method_4_code 130 = .ok (.iand, 1) := by decide +kernel
theorem d5_131 : decode method_4_code 131 = .ok (.sipush 128, 3) := by decide +kernel
theorem d5_134 : decode method_4_code 134 = .ok (.if_icmp .eq 5, 3) := by decide +kernel
theorem d5_137 : decode method_4_code 137 = .ok (.iconst (-1), 1) := by decide +kernel
theorem d5_138 : decode method_4_code 138 = .ok (.ireturn, 1) := by decide +kernel
theorem d5_139 : decode method_4_code 139 = .ok (.iload 5, 2) := by decide +kernel
theorem d5_141 : decode method_4_code 141 = .ok (.bipush 6, 2) := by decide +kernel
theorem d5_143 : decode method_4_code 143 = .ok (.ishl, 1) := by decide +kernel
theorem d5_144 : decode method_4_code 144 = .ok (.iload 7, 2) := by decide +kernel
theorem d5_146 : decode method_4_code 146 = .ok (.bipush 63, 2) := by decide +kernel
theorem d5_148 : decode method_4_code 148 = .ok (.iand, 1) := by decide +kernel
theorem d5_149 : decode method_4_code 149 = .ok (.ior, 1) := by decide +kernel
theorem d5_150 : decode method_4_code 150 = .ok (.istore 5, 2) := by decide +kernel
theorem d5_152 : decode method_4_code 152 = .ok (.iload 4, 2) := by decide +kernel
theorem d5_154 : decode method_4_code 154 = .ok (.iconst 2, 1) := by decide +kernel
theorem d5_155 : decode method_4_code 155 = .ok (.if_icmp .lt 41, 3) := by decide +kernel
theorem d5_158 : decode method_4_code 158 = .ok (.aload_n 0, 1) := by decide +kernel
theorem d5_159 : decode method_4_code 159 = .ok (.iload_n 1, 1) := by decide +kernel
theorem d5_160 : decode method_4_code 160 = .ok (.iconst 2, 1) := by decide +kernel
theorem d5_161 : decode method_4_code 161 = .ok (.iadd, 1) := by decide +kernel
theorem d5_162 : decode method_4_code 162 = .ok (.baload, 1) := by decide +kernel
theorem d5_163 : decode method_4_code 163 = .ok (.sipush 255, 3) := by decide +kernel
theorem d5_166 : decode method_4_code 166 = .ok (.iand, 1) := by decide +kernel
theorem d5_167 : decode method_4_code 167 = .ok (.istore 8, 2) := by decide +kernel
theorem d5_169 : decode method_4_code 169 = .ok (.iload 8, 2) := by decide +kernel
theorem d5_171 : decode method_4_code 171 = .ok (.sipush 192, 3) := by decide +kernel
theorem d5_174 : decode method_4_code 174 = .ok (.iand, 1) := by decide +kernel
theorem d5_175 : decode method_4_code 175 = .ok (.sipush 128, 3) := by decide +kernel
theorem d5_178 : decode method_4_code 178 = .ok (.if_icmp .eq 5, 3) := by decide +kernel
theorem d5_181 : decode method_4_code 181 = .ok (.iconst (-1), 1) := by decide +kernel
theorem d5_182 : decode method_4_code 182 = .ok (.ireturn, 1) := by decide +kernel
theorem d5_183 : decode method_4_code 183 = .ok (.iload 5, 2) := by decide +kernel
theorem d5_185 : decode method_4_code 185 = .ok (.bipush 6, 2) := by decide +kernel
theorem d5_187 : decode method_4_code 187 = .ok (.ishl, 1) := by decide +kernel
theorem d5_188 : decode method_4_code 188 = .ok (.iload 8, 2) := by decide +kernel
theorem d5_190 : decode method_4_code 190 = .ok (.bipush 63, 2) := by decide +kernel
theorem d5_192 : decode method_4_code 192 = .ok (.iand, 1) := by decide +kernel
theorem d5_193 : decode method_4_code 193 = .ok (.ior, 1) := by decide +kernel
theorem d5_194 : decode method_4_code 194 = .ok (.istore 5, 2) := by decide +kernel
theorem d5_196 : decode method_4_code 196 = .ok (.iload 4, 2) := by decide +kernel
theorem d5_198 : decode method_4_code 198 = .ok (.iconst 3, 1) := by decide +kernel
theorem d5_199 : decode method_4_code 199 = .ok (.if_icmp .lt 41, 3) := by decide +kernel
theorem d5_202 : decode method_4_code 202 = .ok (.aload_n 0, 1) := by decide +kernel
theorem d5_203 : decode method_4_code 203 = .ok (.iload_n 1, 1) := by decide +kernel
theorem d5_204 : decode method_4_code 204 = .ok (.iconst 3, 1) := by decide +kernel
theorem d5_205 : decode method_4_code 205 = .ok (.iadd, 1) := by decide +kernel
theorem d5_206 : decode method_4_code 206 = .ok (.baload, 1) := by decide +kernel
theorem d5_207 : decode method_4_code 207 = .ok (.sipush 255, 3) := by decide +kernel
theorem d5_210 : decode method_4_code 210 = .ok (.iand, 1) := by decide +kernel
theorem d5_211 : decode method_4_code 211 = .ok (.istore 8, 2) := by decide +kernel
theorem d5_213 : decode method_4_code 213 = .ok (.iload 8, 2) := by decide +kernel
theorem d5_215 : decode method_4_code 215 = .ok (.sipush 192, 3) := by decide +kernel
theorem d5_218 : decode method_4_code 218 = .ok (.iand, 1) := by decide +kernel
theorem d5_219 : decode method_4_code 219 = .ok (.sipush 128, 3) := by decide +kernel
theorem d5_222 : decode method_4_code 222 = .ok (.if_icmp .eq 5, 3) := by decide +kernel
theorem d5_225 : decode method_4_code 225 = .ok (.iconst (-1), 1) := by decide +kernel
theorem d5_226 : decode method_4_code 226 = .ok (.ireturn, 1) := by decide +kernel
theorem d5_227 : decode method_4_code 227 = .ok (.iload 5, 2) := by decide +kernel
theorem d5_229 : decode method_4_code 229 = .ok (.bipush 6, 2) := by decide +kernel
theorem d5_231 : decode method_4_code 231 = .ok (.ishl, 1) := by decide +kernel
theorem d5_232 : decode method_4_code 232 = .ok (.iload 8, 2) := by decide +kernel
theorem d5_234 : decode method_4_code 234 = .ok (.bipush 63, 2) := by decide +kernel
theorem d5_236 : decode method_4_code 236 = .ok (.iand, 1) := by decide +kernel
theorem d5_237 : decode method_4_code 237 = .ok (.ior, 1) := by decide +kernel
theorem d5_238 : decode method_4_code 238 = .ok (.istore 5, 2) := by decide +kernel
theorem d5_240 : decode method_4_code 240 = .ok (.iload 5, 2) := by decide +kernel
theorem d5_242 : decode method_4_code 242 = .ok (.iload 6, 2) := by decide +kernel
theorem d5_244 : decode method_4_code 244 = .ok (.if_icmp .lt 24, 3) := by decide +kernel
theorem d5_247 : decode method_4_code 247 = .ok (.iload 5, 2) := by decide +kernel
theorem d5_249 : decode method_4_code 249 = .ok (.ldc 33, 2) := by decide +kernel
theorem d5_251 : decode method_4_code 251 = .ok (.if_icmp .gt 17, 3) := by decide +kernel
theorem d5_254 : decode method_4_code 254 = .ok (.iload 5, 2) := by decide +kernel
theorem d5_256 : decode method_4_code 256 = .ok (.ldc 34, 2) := by decide +kernel
theorem d5_258 : decode method_4_code 258 = .ok (.if_icmp .lt 12, 3) := by decide +kernel
theorem d5_261 : decode method_4_code 261 = .ok (.iload 5, 2) := by decide +kernel
theorem d5_263 : decode method_4_code 263 = .ok (.ldc 35, 2) := by decide +kernel
theorem d5_265 : decode method_4_code 265 = .ok (.if_icmp .gt 5, 3) := by decide +kernel
theorem d5_268 : decode method_4_code 268 = .ok (.iconst (-1), 1) := by decide +kernel
theorem d5_269 : decode method_4_code 269 = .ok (.ireturn, 1) := by decide +kernel
theorem d5_270 : decode method_4_code 270 = .ok (.iload_n 1, 1) := by decide +kernel
theorem d5_271 : decode method_4_code 271 = .ok (.iload 4, 2) := by decide +kernel
theorem d5_273 : decode method_4_code 273 = .ok (.iadd, 1) := by decide +kernel
theorem d5_274 : decode method_4_code 274 = .ok (.iconst 1, 1) := by decide +kernel
theorem d5_275 : decode method_4_code 275 = .ok (.iadd, 1) := by decide +kernel
theorem d5_276 : decode method_4_code 276 = .ok (.ireturn, 1) := by decide +kernel
theorem pn_5 : plainName "com/example/kazalo/kazalo/records/EncodingFaultsIsUtf8PinLaw" = true := by first | (simp [plainName, overriddenIn]; done) | decide +kernel
theorem ef_rm5 (m : MethodId) (o0 : Addr) (p1 : Int32) (p2 : Int32) : entryFrame m #[(.ref o0), (.int p1), (.int p2)] 9 = mkF m 0 #[.val (.ref o0), .val (.int p1), .val (.int p2), .unset, .unset, .unset, .unset, .unset, .unset] [] := by first | (simp [entryFrame, mkF, argsToLocals, Value.category]; done) | rfl
def own_f5 (cs : List Int32) (p1 p2 : Int32) : Int32 :=
  if ((own_at cs p1) &&& (255 : Int32)) < (128 : Int32) then (p1 + (1 : Int32))
  else (if (((own_at cs p1) &&& (255 : Int32)) &&& (224 : Int32)) = (192 : Int32) then (if (p1 + (1 : Int32)) < p2 then (if (((own_at cs (p1 + (1 : Int32))) &&& (255 : Int32)) &&& (192 : Int32)) = (128 : Int32) then (if (((((own_at cs p1) &&& (255 : Int32)) &&& (31 : Int32)) <<< ((6 : Int32) &&& 31)) ||| (((own_at cs (p1 + (1 : Int32))) &&& (255 : Int32)) &&& (63 : Int32))) < (128 : Int32) then (-1 : Int32)
        else (if (1114111 : Int32) < (((((own_at cs p1) &&& (255 : Int32)) &&& (31 : Int32)) <<< ((6 : Int32) &&& 31)) ||| (((own_at cs (p1 + (1 : Int32))) &&& (255 : Int32)) &&& (63 : Int32))) then (-1 : Int32)
        else (if (((((own_at cs p1) &&& (255 : Int32)) &&& (31 : Int32)) <<< ((6 : Int32) &&& 31)) ||| (((own_at cs (p1 + (1 : Int32))) &&& (255 : Int32)) &&& (63 : Int32))) < (55296 : Int32) then ((p1 + (1 : Int32)) + (1 : Int32))
        else (if (57343 : Int32) < (((((own_at cs p1) &&& (255 : Int32)) &&& (31 : Int32)) <<< ((6 : Int32) &&& 31)) ||| (((own_at cs (p1 + (1 : Int32))) &&& (255 : Int32)) &&& (63 : Int32))) then ((p1 + (1 : Int32)) + (1 : Int32))
        else (-1 : Int32)))))
      else (-1 : Int32))
    else (-1 : Int32))
  else (if (((own_at cs p1) &&& (255 : Int32)) &&& (240 : Int32)) = (224 : Int32) then (if (p1 + (2 : Int32)) < p2 then (if (((own_at cs (p1 + (1 : Int32))) &&& (255 : Int32)) &&& (192 : Int32)) = (128 : Int32) then (if (((own_at cs (p1 + (2 : Int32))) &&& (255 : Int32)) &&& (192 : Int32)) = (128 : Int32) then (if (((((((own_at cs p1) &&& (255 : Int32)) &&& (15 : Int32)) <<< ((6 : Int32) &&& 31)) ||| (((own_at cs (p1 + (1 : Int32))) &&& (255 : Int32)) &&& (63 : Int32))) <<< ((6 : Int32) &&& 31)) ||| (((own_at cs (p1 + (2 : Int32))) &&& (255 : Int32)) &&& (63 : Int32))) < (2048 : Int32) then (-1 : Int32)
          else (if (1114111 : Int32) < (((((((own_at cs p1) &&& (255 : Int32)) &&& (15 : Int32)) <<< ((6 : Int32) &&& 31)) ||| (((own_at cs (p1 + (1 : Int32))) &&& (255 : Int32)) &&& (63 : Int32))) <<< ((6 : Int32) &&& 31)) ||| (((own_at cs (p1 + (2 : Int32))) &&& (255 : Int32)) &&& (63 : Int32))) then (-1 : Int32)
          else (if (((((((own_at cs p1) &&& (255 : Int32)) &&& (15 : Int32)) <<< ((6 : Int32) &&& 31)) ||| (((own_at cs (p1 + (1 : Int32))) &&& (255 : Int32)) &&& (63 : Int32))) <<< ((6 : Int32) &&& 31)) ||| (((own_at cs (p1 + (2 : Int32))) &&& (255 : Int32)) &&& (63 : Int32))) < (55296 : Int32) then ((p1 + (2 : Int32)) + (1 : Int32))
          else (if (57343 : Int32) < (((((((own_at cs p1) &&& (255 : Int32)) &&& (15 : Int32)) <<< ((6 : Int32) &&& 31)) ||| (((own_at cs (p1 + (1 : Int32))) &&& (255 : Int32)) &&& (63 : Int32))) <<< ((6 : Int32) &&& 31)) ||| (((own_at cs (p1 + (2 : Int32))) &&& (255 : Int32)) &&& (63 : Int32))) then ((p1 + (2 : Int32)) + (1 : Int32))
          else (-1 : Int32)))))
        else (-1 : Int32))
      else (-1 : Int32))
    else (-1 : Int32))
  else (if (((own_at cs p1) &&& (255 : Int32)) &&& (248 : Int32)) = (240 : Int32) then (if (p1 + (3 : Int32)) < p2 then (if (((own_at cs (p1 + (1 : Int32))) &&& (255 : Int32)) &&& (192 : Int32)) = (128 : Int32) then (if (((own_at cs (p1 + (2 : Int32))) &&& (255 : Int32)) &&& (192 : Int32)) = (128 : Int32) then (if (((own_at cs (p1 + (3 : Int32))) &&& (255 : Int32)) &&& (192 : Int32)) = (128 : Int32) then (if (((((((((own_at cs p1) &&& (255 : Int32)) &&& (7 : Int32)) <<< ((6 : Int32) &&& 31)) ||| (((own_at cs (p1 + (1 : Int32))) &&& (255 : Int32)) &&& (63 : Int32))) <<< ((6 : Int32) &&& 31)) ||| (((own_at cs (p1 + (2 : Int32))) &&& (255 : Int32)) &&& (63 : Int32))) <<< ((6 : Int32) &&& 31)) ||| (((own_at cs (p1 + (3 : Int32))) &&& (255 : Int32)) &&& (63 : Int32))) < (65536 : Int32) then (-1 : Int32)
            else (if (1114111 : Int32) < (((((((((own_at cs p1) &&& (255 : Int32)) &&& (7 : Int32)) <<< ((6 : Int32) &&& 31)) ||| (((own_at cs (p1 + (1 : Int32))) &&& (255 : Int32)) &&& (63 : Int32))) <<< ((6 : Int32) &&& 31)) ||| (((own_at cs (p1 + (2 : Int32))) &&& (255 : Int32)) &&& (63 : Int32))) <<< ((6 : Int32) &&& 31)) ||| (((own_at cs (p1 + (3 : Int32))) &&& (255 : Int32)) &&& (63 : Int32))) then (-1 : Int32)
            else (if (((((((((own_at cs p1) &&& (255 : Int32)) &&& (7 : Int32)) <<< ((6 : Int32) &&& 31)) ||| (((own_at cs (p1 + (1 : Int32))) &&& (255 : Int32)) &&& (63 : Int32))) <<< ((6 : Int32) &&& 31)) ||| (((own_at cs (p1 + (2 : Int32))) &&& (255 : Int32)) &&& (63 : Int32))) <<< ((6 : Int32) &&& 31)) ||| (((own_at cs (p1 + (3 : Int32))) &&& (255 : Int32)) &&& (63 : Int32))) < (55296 : Int32) then ((p1 + (3 : Int32)) + (1 : Int32))
            else (if (57343 : Int32) < (((((((((own_at cs p1) &&& (255 : Int32)) &&& (7 : Int32)) <<< ((6 : Int32) &&& 31)) ||| (((own_at cs (p1 + (1 : Int32))) &&& (255 : Int32)) &&& (63 : Int32))) <<< ((6 : Int32) &&& 31)) ||| (((own_at cs (p1 + (2 : Int32))) &&& (255 : Int32)) &&& (63 : Int32))) <<< ((6 : Int32) &&& 31)) ||| (((own_at cs (p1 + (3 : Int32))) &&& (255 : Int32)) &&& (63 : Int32))) then ((p1 + (3 : Int32)) + (1 : Int32))
            else (-1 : Int32)))))
          else (-1 : Int32))
        else (-1 : Int32))
      else (-1 : Int32))
    else (-1 : Int32))
  else (-1 : Int32))))
def rm5Q (Z : State) (cs : List Int32) (p1 p2 : Int32) (h0 : Heap) (n0 : Nat) (v : Option Value) (h : Heap) (L : List Loc) : Prop := v = some (.int (own_f5 cs p1 p2)) ∧ Fr n0 L ∧ h = h0
set_option maxRecDepth 65536 in
set_option maxHeartbeats 40000000 in
theorem rm5 (l : Launch) (Z : State) (aw : Array Value) (hw : ∀ d ∈ tables_1, d.before aw Z = true) (ws : List Jvm.Cond) (o0 : Addr) (p1 : Int32) (p2 : Int32) (cs : List Int32) (k0 : ClassId) (h0 : Heap) (n0 : Nat) (Z0 : n0 ≤ h0.size) (V_a : Arv Z h0 o0 k0 .byte (8 : Int32) (cs.map Value.int) (.int (0 : Int32))) (hi0 : ¬ p1 < (0 : Int32)) (hi1 : p1 < p2) (hi2 : ¬ (8 : Int32) < p2) :
    MetFree l (⟨"com/example/kazalo/kazalo/records/EncodingFaultsIsUtf8PinLaw", "step", "([BII)I"⟩ : MethodName) (head1 (Jvm.Cond.code (⟨"com/example/kazalo/kazalo/records/EncodingFaultsIsUtf8PinLaw", "step", "([BII)I"⟩ : MethodName) method_4_code 9 (some .int) :: ws) ({ frames := 0, cells := 0, slots := 0, locals := 0 } : Room)) (fun a U => a = #[(.ref o0), (.int p1), (.int p2)] ∧ Z.Warmed39 U.vm ∧ U.heap = h0) (fun _ _ _ _ _ => True) (fun _ U o U' => ∃ v L, o = .returned v ∧ rm5Q Z cs p1 p2 h0 n0 v U'.heap L ∧ FrameEnd U o U' L ({ frames := 0, cells := 0, slots := 0, locals := 0 } : Room).cells ({ frames := 0, cells := 0, slots := 0, locals := 0 } : Room).slots) := by
  refine MetFree.of_bodySF (plainFor_of_name pn_5) hisR ?_
  intro p e s m args below meth c s₁ Bd hml0 hP hK
  obtain ⟨rfl, hZ, hh⟩ := hP
  have hx := Bd.exec
  have hby := Bd.bytes
  have hml : c.maxLocals = 9 := hml0
  have hown : s.vm.findClass "com/example/kazalo/kazalo/records/EncodingFaultsIsUtf8PinLaw" = some m.cls := findClass_of_methodNamed Bd.named
  have hnm := (name_of_methodNamed Bd.named Bd.method).1
  have X0 : Stand p l e ({ frames := 0, cells := 0, slots := 0, locals := 0 } : Room) s m #[(.ref o0), (.int p1), (.int p2)] below meth c s₁ [] 0 0 := Stand.of_body Bd
  have e0 : s₁.heap = h0 := by rw [← hh, Bd.state]; rfl
  have N0 := Fr.nil n0
  have pre0 : ∀ t, Steps p.tables e below (s₁.setTop (mkF m 0 #[.val (.ref o0), .val (.int p1), .val (.int p2), .unset, .unset, .unset, .unset, .unset, .unset] [])) t → Steps p.tables e below (s₁.setTop (entryFrame m #[(.ref o0), (.int p1), (.int p2)] 9)) t := fun t k => castTop (ef_rm5 m o0 p1 p2) k
  obtain ⟨cl1, Ar1, q1, S1, N1', H1, G1⟩ := id V_a
  have hin1 : ¬ (p1 < 0 ∨ cl1.slots.size ≤ (p1).toNatClampNeg) := inb_of S1 (own_in0 hi0 hi1 hi2)
  have pre2 : ∀ t, Steps p.tables e below (s₁.setTop (mkF m 12 #[.val (.ref o0), .val (.int p1), .val (.int p2), .val (.int ((own_at cs p1) &&& (255 : Int32))), .unset, .unset, .unset, .unset, .unset] [(.int (128 : Int32)), (.int ((own_at cs p1) &&& (255 : Int32)))])) t → Steps p.tables e below (s₁.setTop (entryFrame m #[(.ref o0), (.int p1), (.int p2)] 9)) t := fun t k => pre0 t (by
    show Steps p.tables e below (s₁.setTop (mkF m 0 #[.val (.ref o0), .val (.int p1), .val (.int p2), .unset, .unset, .unset, .unset, .unset, .unset] [])) _
    refine XS.aloadN X0.here hx rfl (hb hby d5_0) rfl rfl ?_
    show Steps p.tables e below (s₁.setTop (mkF m 1 #[.val (.ref o0), .val (.int p1), .val (.int p2), .unset, .unset, .unset, .unset, .unset, .unset] [(.ref o0)])) _
    refine XS.iloadN X0.here hx rfl (hb hby d5_1) rfl ?_
    show Steps p.tables e below (s₁.setTop (mkF m 2 #[.val (.ref o0), .val (.int p1), .val (.int p2), .unset, .unset, .unset, .unset, .unset, .unset] [(.int p1), (.ref o0)])) _
    refine X0.baloadBytes hx (j := p1) (v := (.int (own_at cs p1))) (by rw [e0]; exact Ar1.1) (State.isArrayOf_alike hZ.alike Ar1.2.1) Ar1.2.2 hin1 (H1.at hin1 (own_getD cs _)) (g := (mkF m 2 #[.val (.ref o0), .val (.int p1), .val (.int p2), .unset, .unset, .unset, .unset, .unset, .unset] [(.int p1), (.ref o0)])) rfl rfl (hb hby d5_2) _ ?_
    show Steps p.tables e below (s₁.setTop (mkF m 3 #[.val (.ref o0), .val (.int p1), .val (.int p2), .unset, .unset, .unset, .unset, .unset, .unset] [(.int (own_at cs p1))])) _
    refine XS.sipush X0.here hx rfl (hb hby d5_3) ?_
    show Steps p.tables e below (s₁.setTop (mkF m 6 #[.val (.ref o0), .val (.int p1), .val (.int p2), .unset, .unset, .unset, .unset, .unset, .unset] [(.int (255 : Int32)), (.int (own_at cs p1))])) _
    refine XS.iand X0.here hx rfl (hb hby d5_6) rfl ?_
    show Steps p.tables e below (s₁.setTop (mkF m 7 #[.val (.ref o0), .val (.int p1), .val (.int p2), .unset, .unset, .unset, .unset, .unset, .unset] [(.int ((own_at cs p1) &&& (255 : Int32)))])) _
    refine XS.istoreN X0.here hx rfl (hb hby d5_7) rfl (l' := #[.val (.ref o0), .val (.int p1), .val (.int p2), .val (.int ((own_at cs p1) &&& (255 : Int32))), .unset, .unset, .unset, .unset, .unset]) rfl ?_
    show Steps p.tables e below (s₁.setTop (mkF m 8 #[.val (.ref o0), .val (.int p1), .val (.int p2), .val (.int ((own_at cs p1) &&& (255 : Int32))), .unset, .unset, .unset, .unset, .unset] [])) _
    refine XS.iloadN X0.here hx rfl (hb hby d5_8) rfl ?_
    show Steps p.tables e below (s₁.setTop (mkF m 9 #[.val (.ref o0), .val (.int p1), .val (.int p2), .val (.int ((own_at cs p1) &&& (255 : Int32))), .unset, .unset, .unset, .unset, .unset] [(.int ((own_at cs p1) &&& (255 : Int32)))])) _
    refine XS.sipush X0.here hx rfl (hb hby d5_9) ?_
    exact k)
  by_cases hc12_3 : ((own_at cs p1) &&& (255 : Int32)) < (128 : Int32)
  · obtain ⟨fs, hr, hrun, hended, hW, hsame⟩ := X0.leave (v := some (.int (p1 + (1 : Int32)))) (fun h => by rw [Bd.returns] at h; cases h)
    refine ⟨_, _, pre2 _ ?_, hrun, hended, _, _, rfl, ?_, ⟨_, rfl⟩, hW, hsame.mono (by decide) (by decide)⟩
    · show Steps p.tables e below (s₁.setTop (mkF m 12 #[.val (.ref o0), .val (.int p1), .val (.int p2), .val (.int ((own_at cs p1) &&& (255 : Int32))), .unset, .unset, .unset, .unset, .unset] [(.int (128 : Int32)), (.int ((own_at cs p1) &&& (255 : Int32)))])) _
      refine XS.icmpNo X0.here hx rfl (hb hby d5_12) rfl (tlt hc12_3).2.1 ?_
      show Steps p.tables e below (s₁.setTop (mkF m 15 #[.val (.ref o0), .val (.int p1), .val (.int p2), .val (.int ((own_at cs p1) &&& (255 : Int32))), .unset, .unset, .unset, .unset, .unset] [])) _
      refine XS.iloadN X0.here hx rfl (hb hby d5_15) rfl ?_
      show Steps p.tables e below (s₁.setTop (mkF m 16 #[.val (.ref o0), .val (.int p1), .val (.int p2), .val (.int ((own_at cs p1) &&& (255 : Int32))), .unset, .unset, .unset, .unset, .unset] [(.int p1)])) _
      refine XS.iconst X0.here hx rfl (hb hby d5_16) ?_
      show Steps p.tables e below (s₁.setTop (mkF m 17 #[.val (.ref o0), .val (.int p1), .val (.int p2), .val (.int ((own_at cs p1) &&& (255 : Int32))), .unset, .unset, .unset, .unset, .unset] [(.int (1 : Int32)), (.int p1)])) _
      refine XS.iadd X0.here hx rfl (hb hby d5_17) rfl ?_
      show Steps p.tables e below (s₁.setTop (mkF m 18 #[.val (.ref o0), .val (.int p1), .val (.int p2), .val (.int ((own_at cs p1) &&& (255 : Int32))), .unset, .unset, .unset, .unset, .unset] [(.int (p1 + (1 : Int32)))])) _
      exact retI X0 hx Bd.returns (hb hby d5_18) hr
    · show rm5Q Z cs p1 p2 h0 n0 _ s₁.heap _
      rw [e0]
      exact ⟨(by rw [show own_f5 cs p1 p2 = (p1 + (1 : Int32)) from by simp only [own_f5, if_pos hc12_3]]), N0, rfl⟩
  · have pre4 : ∀ t, Steps p.tables e below (s₁.setTop (mkF m 27 #[.val (.ref o0), .val (.int p1), .val (.int p2), .val (.int ((own_at cs p1) &&& (255 : Int32))), .unset, .unset, .unset, .unset, .unset] [(.int (192 : Int32)), (.int (((own_at cs p1) &&& (255 : Int32)) &&& (224 : Int32)))])) t → Steps p.tables e below (s₁.setTop (entryFrame m #[(.ref o0), (.int p1), (.int p2)] 9)) t := fun t k => pre2 t (by
      show Steps p.tables e below (s₁.setTop (mkF m 12 #[.val (.ref o0), .val (.int p1), .val (.int p2), .val (.int ((own_at cs p1) &&& (255 : Int32))), .unset, .unset, .unset, .unset, .unset] [(.int (128 : Int32)), (.int ((own_at cs p1) &&& (255 : Int32)))])) _
      refine XS.icmpYes X0.here hx rfl (pc0 := 12) (pc' := 19) rfl (hb hby d5_12) rfl (flt hc12_3).2.1 (by decide) (by decide) ?_
      show Steps p.tables e below (s₁.setTop (mkF m 19 #[.val (.ref o0), .val (.int p1), .val (.int p2), .val (.int ((own_at cs p1) &&& (255 : Int32))), .unset, .unset, .unset, .unset, .unset] [])) _
      refine XS.iloadN X0.here hx rfl (hb hby d5_19) rfl ?_
      show Steps p.tables e below (s₁.setTop (mkF m 20 #[.val (.ref o0), .val (.int p1), .val (.int p2), .val (.int ((own_at cs p1) &&& (255 : Int32))), .unset, .unset, .unset, .unset, .unset] [(.int ((own_at cs p1) &&& (255 : Int32)))])) _
      refine XS.sipush X0.here hx rfl (hb hby d5_20) ?_
      show Steps p.tables e below (s₁.setTop (mkF m 23 #[.val (.ref o0), .val (.int p1), .val (.int p2), .val (.int ((own_at cs p1) &&& (255 : Int32))), .unset, .unset, .unset, .unset, .unset] [(.int (224 : Int32)), (.int ((own_at cs p1) &&& (255 : Int32)))])) _
      refine XS.iand X0.here hx rfl (hb hby d5_23) rfl ?_
      show Steps p.tables e below (s₁.setTop (mkF m 24 #[.val (.ref o0), .val (.int p1), .val (.int p2), .val (.int ((own_at cs p1) &&& (255 : Int32))), .unset, .unset, .unset, .unset, .unset] [(.int (((own_at cs p1) &&& (255 : Int32)) &&& (224 : Int32)))])) _
      refine XS.sipush X0.here hx rfl (hb hby d5_24) ?_
      exact k)
    by_cases hc27_5 : (((own_at cs p1) &&& (255 : Int32)) &&& (224 : Int32)) = (192 : Int32)
    · have pre6 : ∀ t, Steps p.tables e below (s₁.setTop (mkF m 109 #[.val (.ref o0), .val (.int p1), .val (.int p2), .val (.int ((own_at cs p1) &&& (255 : Int32))), .val (.int (1 : Int32)), .val (.int (((own_at cs p1) &&& (255 : Int32)) &&& (31 : Int32))), .val (.int (128 : Int32)), .unset, .unset] [(.int p2), (.int (p1 + (1 : Int32)))])) t → Steps p.tables e below (s₁.setTop (entryFrame m #[(.ref o0), (.int p1), (.int p2)] 9)) t := fun t k => pre4 t (by
        show Steps p.tables e below (s₁.setTop (mkF m 27 #[.val (.ref o0), .val (.int p1), .val (.int p2), .val (.int ((own_at cs p1) &&& (255 : Int32))), .unset, .unset, .unset, .unset, .unset] [(.int (192 : Int32)), (.int (((own_at cs p1) &&& (255 : Int32)) &&& (224 : Int32)))])) _
        refine XS.icmpNo X0.here hx rfl (hb hby d5_27) rfl (teq hc27_5).2 ?_
        show Steps p.tables e below (s₁.setTop (mkF m 30 #[.val (.ref o0), .val (.int p1), .val (.int p2), .val (.int ((own_at cs p1) &&& (255 : Int32))), .unset, .unset, .unset, .unset, .unset] [])) _
        refine XS.iconst X0.here hx rfl (hb hby d5_30) ?_
        show Steps p.tables e below (s₁.setTop (mkF m 31 #[.val (.ref o0), .val (.int p1), .val (.int p2), .val (.int ((own_at cs p1) &&& (255 : Int32))), .unset, .unset, .unset, .unset, .unset] [(.int (1 : Int32))])) _
        refine XS.istore X0.here hx rfl (hb hby d5_31) rfl (l' := #[.val (.ref o0), .val (.int p1), .val (.int p2), .val (.int ((own_at cs p1) &&& (255 : Int32))), .val (.int (1 : Int32)), .unset, .unset, .unset, .unset]) rfl ?_
        show Steps p.tables e below (s₁.setTop (mkF m 33 #[.val (.ref o0), .val (.int p1), .val (.int p2), .val (.int ((own_at cs p1) &&& (255 : Int32))), .val (.int (1 : Int32)), .unset, .unset, .unset, .unset] [])) _
        refine XS.iloadN X0.here hx rfl (hb hby d5_33) rfl ?_
        show Steps p.tables e below (s₁.setTop (mkF m 34 #[.val (.ref o0), .val (.int p1), .val (.int p2), .val (.int ((own_at cs p1) &&& (255 : Int32))), .val (.int (1 : Int32)), .unset, .unset, .unset, .unset] [(.int ((own_at cs p1) &&& (255 : Int32)))])) _
        refine XS.bipush X0.here hx rfl (hb hby d5_34) ?_
        show Steps p.tables e below (s₁.setTop (mkF m 36 #[.val (.ref o0), .val (.int p1), .val (.int p2), .val (.int ((own_at cs p1) &&& (255 : Int32))), .val (.int (1 : Int32)), .unset, .unset, .unset, .unset] [(.int (31 : Int32)), (.int ((own_at cs p1) &&& (255 : Int32)))])) _
        refine XS.iand X0.here hx rfl (hb hby d5_36) rfl ?_
        show Steps p.tables e below (s₁.setTop (mkF m 37 #[.val (.ref o0), .val (.int p1), .val (.int p2), .val (.int ((own_at cs p1) &&& (255 : Int32))), .val (.int (1 : Int32)), .unset, .unset, .unset, .unset] [(.int (((own_at cs p1) &&& (255 : Int32)) &&& (31 : Int32)))])) _
        refine XS.istore X0.here hx rfl (hb hby d5_37) rfl (l' := #[.val (.ref o0), .val (.int p1), .val (.int p2), .val (.int ((own_at cs p1) &&& (255 : Int32))), .val (.int (1 : Int32)), .val (.int (((own_at cs p1) &&& (255 : Int32)) &&& (31 : Int32))), .unset, .unset, .unset]) rfl ?_
        show Steps p.tables e below (s₁.setTop (mkF m 39 #[.val (.ref o0), .val (.int p1), .val (.int p2), .val (.int ((own_at cs p1) &&& (255 : Int32))), .val (.int (1 : Int32)), .val (.int (((own_at cs p1) &&& (255 : Int32)) &&& (31 : Int32))), .unset, .unset, .unset] [])) _
        refine XS.sipush X0.here hx rfl (hb hby d5_39) ?_
        show Steps p.tables e below (s₁.setTop (mkF m 42 #[.val (.ref o0), .val (.int p1), .val (.int p2), .val (.int ((own_at cs p1) &&& (255 : Int32))), .val (.int (1 : Int32)), .val (.int (((own_at cs p1) &&& (255 : Int32)) &&& (31 : Int32))), .unset, .unset, .unset] [(.int (128 : Int32))])) _
        refine XS.istore X0.here hx rfl (hb hby d5_42) rfl (l' := #[.val (.ref o0), .val (.int p1), .val (.int p2), .val (.int ((own_at cs p1) &&& (255 : Int32))), .val (.int (1 : Int32)), .val (.int (((own_at cs p1) &&& (255 : Int32)) &&& (31 : Int32))), .val (.int (128 : Int32)), .unset, .unset]) rfl ?_
        show Steps p.tables e below (s₁.setTop (mkF m 44 #[.val (.ref o0), .val (.int p1), .val (.int p2), .val (.int ((own_at cs p1) &&& (255 : Int32))), .val (.int (1 : Int32)), .val (.int (((own_at cs p1) &&& (255 : Int32)) &&& (31 : Int32))), .val (.int (128 : Int32)), .unset, .unset] [])) _
        refine XS.goto X0.here hx rfl (pc0 := 44) (pc' := 104) rfl (hb hby d5_44) (by decide) (by decide) ?_
        show Steps p.tables e below (s₁.setTop (mkF m 104 #[.val (.ref o0), .val (.int p1), .val (.int p2), .val (.int ((own_at cs p1) &&& (255 : Int32))), .val (.int (1 : Int32)), .val (.int (((own_at cs p1) &&& (255 : Int32)) &&& (31 : Int32))), .val (.int (128 : Int32)), .unset, .unset] [])) _
        refine XS.iloadN X0.here hx rfl (hb hby d5_104) rfl ?_
        show Steps p.tables e below (s₁.setTop (mkF m 105 #[.val (.ref o0), .val (.int p1), .val (.int p2), .val (.int ((own_at cs p1) &&& (255 : Int32))), .val (.int (1 : Int32)), .val (.int (((own_at cs p1) &&& (255 : Int32)) &&& (31 : Int32))), .val (.int (128 : Int32)), .unset, .unset] [(.int p1)])) _
        refine XS.iload X0.here hx rfl (hb hby d5_105) rfl ?_
        show Steps p.tables e below (s₁.setTop (mkF m 107 #[.val (.ref o0), .val (.int p1), .val (.int p2), .val (.int ((own_at cs p1) &&& (255 : Int32))), .val (.int (1 : Int32)), .val (.int (((own_at cs p1) &&& (255 : Int32)) &&& (31 : Int32))), .val (.int (128 : Int32)), .unset, .unset] [(.int (1 : Int32)), (.int p1)])) _
        refine XS.iadd X0.here hx rfl (hb hby d5_107) rfl ?_
        show Steps p.tables e below (s₁.setTop (mkF m 108 #[.val (.ref o0), .val (.int p1), .val (.int p2), .val (.int ((own_at cs p1) &&& (255 : Int32))), .val (.int (1 : Int32)), .val (.int (((own_at cs p1) &&& (255 : Int32)) &&& (31 : Int32))), .val (.int (128 : Int32)), .unset, .unset] [(.int (p1 + (1 : Int32)))])) _
        refine XS.iloadN X0.here hx rfl (hb hby d5_108) rfl ?_
        exact k)
      by_cases hc109_7 : (p1 + (1 : Int32)) < p2
      · obtain ⟨cl8, Ar8, q8, S8, N8', H8, G8⟩ := id V_a
        have hin8 : ¬ ((p1 + (1 : Int32)) < 0 ∨ cl8.slots.size ≤ ((p1 + (1 : Int32))).toNatClampNeg) := inb_of S8 (own_inS (n := (1 : Int32)) (k := (1 : Int32)) hi0 hi1 hi2 hc109_7 (by decide) (by decide) (by decide))
        have pre9 : ∀ t, Steps p.tables e below (s₁.setTop (mkF m 134 #[.val (.ref o0), .val (.int p1), .val (.int p2), .val (.int ((own_at cs p1) &&& (255 : Int32))), .val (.int (1 : Int32)), .val (.int (((own_at cs p1) &&& (255 : Int32)) &&& (31 : Int32))), .val (.int (128 : Int32)), .val (.int ((own_at cs (p1 + (1 : Int32))) &&& (255 : Int32))), .unset] [(.int (128 : Int32)), (.int (((own_at cs (p1 + (1 : Int32))) &&& (255 : Int32)) &&& (192 : Int32)))])) t → Steps p.tables e below (s₁.setTop (entryFrame m #[(.ref o0), (.int p1), (.int p2)] 9)) t := fun t k => pre6 t (by
          show Steps p.tables e below (s₁.setTop (mkF m 109 #[.val (.ref o0), .val (.int p1), .val (.int p2), .val (.int ((own_at cs p1) &&& (255 : Int32))), .val (.int (1 : Int32)), .val (.int (((own_at cs p1) &&& (255 : Int32)) &&& (31 : Int32))), .val (.int (128 : Int32)), .unset, .unset] [(.int p2), (.int (p1 + (1 : Int32)))])) _
          refine XS.icmpYes X0.here hx rfl (pc0 := 109) (pc' := 114) rfl (hb hby d5_109) rfl (tlt hc109_7).1 (by decide) (by decide) ?_
          show Steps p.tables e below (s₁.setTop (mkF m 114 #[.val (.ref o0), .val (.int p1), .val (.int p2), .val (.int ((own_at cs p1) &&& (255 : Int32))), .val (.int (1 : Int32)), .val (.int (((own_at cs p1) &&& (255 : Int32)) &&& (31 : Int32))), .val (.int (128 : Int32)), .unset, .unset] [])) _
          refine XS.aloadN X0.here hx rfl (hb hby d5_114) rfl rfl ?_
          show Steps p.tables e below (s₁.setTop (mkF m 115 #[.val (.ref o0), .val (.int p1), .val (.int p2), .val (.int ((own_at cs p1) &&& (255 : Int32))), .val (.int (1 : Int32)), .val (.int (((own_at cs p1) &&& (255 : Int32)) &&& (31 : Int32))), .val (.int (128 : Int32)), .unset, .unset] [(.ref o0)])) _
          refine XS.iloadN X0.here hx rfl (hb hby d5_115) rfl ?_
          show Steps p.tables e below (s₁.setTop (mkF m 116 #[.val (.ref o0), .val (.int p1), .val (.int p2), .val (.int ((own_at cs p1) &&& (255 : Int32))), .val (.int (1 : Int32)), .val (.int (((own_at cs p1) &&& (255 : Int32)) &&& (31 : Int32))), .val (.int (128 : Int32)), .unset, .unset] [(.int p1), (.ref o0)])) _
          refine XS.iconst X0.here hx rfl (hb hby d5_116) ?_
          show Steps p.tables e below (s₁.setTop (mkF m 117 #[.val (.ref o0), .val (.int p1), .val (.int p2), .val (.int ((own_at cs p1) &&& (255 : Int32))), .val (.int (1 : Int32)), .val (.int (((own_at cs p1) &&& (255 : Int32)) &&& (31 : Int32))), .val (.int (128 : Int32)), .unset, .unset] [(.int (1 : Int32)), (.int p1), (.ref o0)])) _
          refine XS.iadd X0.here hx rfl (hb hby d5_117) rfl ?_
          show Steps p.tables e below (s₁.setTop (mkF m 118 #[.val (.ref o0), .val (.int p1), .val (.int p2), .val (.int ((own_at cs p1) &&& (255 : Int32))), .val (.int (1 : Int32)), .val (.int (((own_at cs p1) &&& (255 : Int32)) &&& (31 : Int32))), .val (.int (128 : Int32)), .unset, .unset] [(.int (p1 + (1 : Int32))), (.ref o0)])) _
          refine X0.baloadBytes hx (j := (p1 + (1 : Int32))) (v := (.int (own_at cs (p1 + (1 : Int32))))) (by rw [e0]; exact Ar8.1) (State.isArrayOf_alike hZ.alike Ar8.2.1) Ar8.2.2 hin8 (H8.at hin8 (own_getD cs _)) (g := (mkF m 118 #[.val (.ref o0), .val (.int p1), .val (.int p2), .val (.int ((own_at cs p1) &&& (255 : Int32))), .val (.int (1 : Int32)), .val (.int (((own_at cs p1) &&& (255 : Int32)) &&& (31 : Int32))), .val (.int (128 : Int32)), .unset, .unset] [(.int (p1 + (1 : Int32))), (.ref o0)])) rfl rfl (hb hby d5_118) _ ?_
          show Steps p.tables e below (s₁.setTop (mkF m 119 #[.val (.ref o0), .val (.int p1), .val (.int p2), .val (.int ((own_at cs p1) &&& (255 : Int32))), .val (.int (1 : Int32)), .val (.int (((own_at cs p1) &&& (255 : Int32)) &&& (31 : Int32))), .val (.int (128 : Int32)), .unset, .unset] [(.int (own_at cs (p1 + (1 : Int32))))])) _
          refine XS.sipush X0.here hx rfl (hb hby d5_119) ?_
          show Steps p.tables e below (s₁.setTop (mkF m 122 #[.val (.ref o0), .val (.int p1), .val (.int p2), .val (.int ((own_at cs p1) &&& (255 : Int32))), .val (.int (1 : Int32)), .val (.int (((own_at cs p1) &&& (255 : Int32)) &&& (31 : Int32))), .val (.int (128 : Int32)), .unset, .unset] [(.int (255 : Int32)), (.int (own_at cs (p1 + (1 : Int32))))])) _
          refine XS.iand X0.here hx rfl (hb hby d5_122) rfl ?_
          show Steps p.tables e below (s₁.setTop (mkF m 123 #[.val (.ref o0), .val (.int p1), .val (.int p2), .val (.int ((own_at cs p1) &&& (255 : Int32))), .val (.int (1 : Int32)), .val (.int (((own_at cs p1) &&& (255 : Int32)) &&& (31 : Int32))), .val (.int (128 : Int32)), .unset, .unset] [(.int ((own_at cs (p1 + (1 : Int32))) &&& (255 : Int32)))])) _
          refine XS.istore X0.here hx rfl (hb hby d5_123) rfl (l' := #[.val (.ref o0), .val (.int p1), .val (.int p2), .val (.int ((own_at cs p1) &&& (255 : Int32))), .val (.int (1 : Int32)), .val (.int (((own_at cs p1) &&& (255 : Int32)) &&& (31 : Int32))), .val (.int (128 : Int32)), .val (.int ((own_at cs (p1 + (1 : Int32))) &&& (255 : Int32))), .unset]) rfl ?_
          show Steps p.tables e below (s₁.setTop (mkF m 125 #[.val (.ref o0), .val (.int p1), .val (.int p2), .val (.int ((own_at cs p1) &&& (255 : Int32))), .val (.int (1 : Int32)), .val (.int (((own_at cs p1) &&& (255 : Int32)) &&& (31 : Int32))), .val (.int (128 : Int32)), .val (.int ((own_at cs (p1 + (1 : Int32))) &&& (255 : Int32))), .unset] [])) _
          refine XS.iload X0.here hx rfl (hb hby d5_125) rfl ?_
          show Steps p.tables e below (s₁.setTop (mkF m 127 #[.val (.ref o0), .val (.int p1), .val (.int p2), .val (.int ((own_at cs p1) &&& (255 : Int32))), .val (.int (1 : Int32)), .val (.int (((own_at cs p1) &&& (255 : Int32)) &&& (31 : Int32))), .val (.int (128 : Int32)), .val (.int ((own_at cs (p1 + (1 : Int32))) &&& (255 : Int32))), .unset] [(.int ((own_at cs (p1 + (1 : Int32))) &&& (255 : Int32)))])) _
          refine XS.sipush X0.here hx rfl (hb hby d5_127) ?_
          show Steps p.tables e below (s₁.setTop (mkF m 130 #[.val (.ref o0), .val (.int p1), .val (.int p2), .val (.int ((own_at cs p1) &&& (255 : Int32))), .val (.int (1 : Int32)), .val (.int (((own_at cs p1) &&& (255 : Int32)) &&& (31 : Int32))), .val (.int (128 : Int32)), .val (.int ((own_at cs (p1 + (1 : Int32))) &&& (255 : Int32))), .unset] [(.int (192 : Int32)), (.int ((own_at cs (p1 + (1 : Int32))) &&& (255 : Int32)))])) _
          refine XS.iand X0.here hx rfl (hb hby d5_130) rfl ?_
          show Steps p.tables e below (s₁.setTop (mkF m 131 #[.val (.ref o0), .val (.int p1), .val (.int p2), .val (.int ((own_at cs p1) &&& (255 : Int32))), .val (.int (1 : Int32)), .val (.int (((own_at cs p1) &&& (255 : Int32)) &&& (31 : Int32))), .val (.int (128 : Int32)), .val (.int ((own_at cs (p1 + (1 : Int32))) &&& (255 : Int32))), .unset] [(.int (((own_at cs (p1 + (1 : Int32))) &&& (255 : Int32)) &&& (192 : Int32)))])) _
          refine XS.sipush X0.here hx rfl (hb hby d5_131) ?_
          exact k)
        by_cases hc134_10 : (((own_at cs (p1 + (1 : Int32))) &&& (255 : Int32)) &&& (192 : Int32)) = (128 : Int32)
        · have pre11 : ∀ t, Steps p.tables e below (s₁.setTop (mkF m 244 #[.val (.ref o0), .val (.int p1), .val (.int p2), .val (.int ((own_at cs p1) &&& (255 : Int32))), .val (.int (1 : Int32)), .val (.int (((((own_at cs p1) &&& (255 : Int32)) &&& (31 : Int32)) <<< ((6 : Int32) &&& 31)) ||| (((own_at cs (p1 + (1 : Int32))) &&& (255 : Int32)) &&& (63 : Int32)))), .val (.int (128 : Int32)), .val (.int ((own_at cs (p1 + (1 : Int32))) &&& (255 : Int32))), .unset] [(.int (128 : Int32)), (.int (((((own_at cs p1) &&& (255 : Int32)) &&& (31 : Int32)) <<< ((6 : Int32) &&& 31)) ||| (((own_at cs (p1 + (1 : Int32))) &&& (255 : Int32)) &&& (63 : Int32))))])) t → Steps p.tables e below (s₁.setTop (entryFrame m #[(.ref o0), (.int p1), (.int p2)] 9)) t := fun t k => pre9 t (by
            show Steps p.tables e below (s₁.setTop (mkF m 134 #[.val (.ref o0), .val (.int p1), .val (.int p2), .val (.int ((own_at cs p1) &&& (255 : Int32))), .val (.int (1 : Int32)), .val (.int (((own_at cs p1) &&& (255 : Int32)) &&& (31 : Int32))), .val (.int (128 : Int32)), .val (.int ((own_at cs (p1 + (1 : Int32))) &&& (255 : Int32))), .unset] [(.int (128 : Int32)), (.int (((own_at cs (p1 + (1 : Int32))) &&& (255 : Int32)) &&& (192 : Int32)))])) _
            refine XS.icmpYes X0.here hx rfl (pc0 := 134) (pc' := 139) rfl (hb hby d5_134) rfl (teq hc134_10).1 (by decide) (by decide) ?_
            show Steps p.tables e below (s₁.setTop (mkF m 139 #[.val (.ref o0), .val (.int p1), .val (.int p2), .val (.int ((own_at cs p1) &&& (255 : Int32))), .val (.int (1 : Int32)), .val (.int (((own_at cs p1) &&& (255 : Int32)) &&& (31 : Int32))), .val (.int (128 : Int32)), .val (.int ((own_at cs (p1 + (1 : Int32))) &&& (255 : Int32))), .unset] [])) _
            refine XS.iload X0.here hx rfl (hb hby d5_139) rfl ?_
            show Steps p.tables e below (s₁.setTop (mkF m 141 #[.val (.ref o0), .val (.int p1), .val (.int p2), .val (.int ((own_at cs p1) &&& (255 : Int32))), .val (.int (1 : Int32)), .val (.int (((own_at cs p1) &&& (255 : Int32)) &&& (31 : Int32))), .val (.int (128 : Int32)), .val (.int ((own_at cs (p1 + (1 : Int32))) &&& (255 : Int32))), .unset] [(.int (((own_at cs p1) &&& (255 : Int32)) &&& (31 : Int32)))])) _
            refine XS.bipush X0.here hx rfl (hb hby d5_141) ?_
            show Steps p.tables e below (s₁.setTop (mkF m 143 #[.val (.ref o0), .val (.int p1), .val (.int p2), .val (.int ((own_at cs p1) &&& (255 : Int32))), .val (.int (1 : Int32)), .val (.int (((own_at cs p1) &&& (255 : Int32)) &&& (31 : Int32))), .val (.int (128 : Int32)), .val (.int ((own_at cs (p1 + (1 : Int32))) &&& (255 : Int32))), .unset] [(.int (6 : Int32)), (.int (((own_at cs p1) &&& (255 : Int32)) &&& (31 : Int32)))])) _
            refine XS.ishl X0.here hx rfl (hb hby d5_143) rfl ?_
            show Steps p.tables e below (s₁.setTop (mkF m 144 #[.val (.ref o0), .val (.int p1), .val (.int p2), .val (.int ((own_at cs p1) &&& (255 : Int32))), .val (.int (1 : Int32)), .val (.int (((own_at cs p1) &&& (255 : Int32)) &&& (31 : Int32))), .val (.int (128 : Int32)), .val (.int ((own_at cs (p1 + (1 : Int32))) &&& (255 : Int32))), .unset] [(.int ((((own_at cs p1) &&& (255 : Int32)) &&& (31 : Int32)) <<< ((6 : Int32) &&& 31)))])) _
            refine XS.iload X0.here hx rfl (hb hby d5_144) rfl ?_
            show Steps p.tables e below (s₁.setTop (mkF m 146 #[.val (.ref o0), .val (.int p1), .val (.int p2), .val (.int ((own_at cs p1) &&& (255 : Int32))), .val (.int (1 : Int32)), .val (.int (((own_at cs p1) &&& (255 : Int32)) &&& (31 : Int32))), .val (.int (128 : Int32)), .val (.int ((own_at cs (p1 + (1 : Int32))) &&& (255 : Int32))), .unset] [(.int ((own_at cs (p1 + (1 : Int32))) &&& (255 : Int32))), (.int ((((own_at cs p1) &&& (255 : Int32)) &&& (31 : Int32)) <<< ((6 : Int32) &&& 31)))])) _
            refine XS.bipush X0.here hx rfl (hb hby d5_146) ?_
            show Steps p.tables e below (s₁.setTop (mkF m 148 #[.val (.ref o0), .val (.int p1), .val (.int p2), .val (.int ((own_at cs p1) &&& (255 : Int32))), .val (.int (1 : Int32)), .val (.int (((own_at cs p1) &&& (255 : Int32)) &&& (31 : Int32))), .val (.int (128 : Int32)), .val (.int ((own_at cs (p1 + (1 : Int32))) &&& (255 : Int32))), .unset] [(.int (63 : Int32)), (.int ((own_at cs (p1 + (1 : Int32))) &&& (255 : Int32))), (.int ((((own_at cs p1) &&& (255 : Int32)) &&& (31 : Int32)) <<< ((6 : Int32) &&& 31)))])) _
            refine XS.iand X0.here hx rfl (hb hby d5_148) rfl ?_
            show Steps p.tables e below (s₁.setTop (mkF m 149 #[.val (.ref o0), .val (.int p1), .val (.int p2), .val (.int ((own_at cs p1) &&& (255 : Int32))), .val (.int (1 : Int32)), .val (.int (((own_at cs p1) &&& (255 : Int32)) &&& (31 : Int32))), .val (.int (128 : Int32)), .val (.int ((own_at cs (p1 + (1 : Int32))) &&& (255 : Int32))), .unset] [(.int (((own_at cs (p1 + (1 : Int32))) &&& (255 : Int32)) &&& (63 : Int32))), (.int ((((own_at cs p1) &&& (255 : Int32)) &&& (31 : Int32)) <<< ((6 : Int32) &&& 31)))])) _
            refine XS.ior X0.here hx rfl (hb hby d5_149) rfl ?_
            show Steps p.tables e below (s₁.setTop (mkF m 150 #[.val (.ref o0), .val (.int p1), .val (.int p2), .val (.int ((own_at cs p1) &&& (255 : Int32))), .val (.int (1 : Int32)), .val (.int (((own_at cs p1) &&& (255 : Int32)) &&& (31 : Int32))), .val (.int (128 : Int32)), .val (.int ((own_at cs (p1 + (1 : Int32))) &&& (255 : Int32))), .unset] [(.int (((((own_at cs p1) &&& (255 : Int32)) &&& (31 : Int32)) <<< ((6 : Int32) &&& 31)) ||| (((own_at cs (p1 + (1 : Int32))) &&& (255 : Int32)) &&& (63 : Int32))))])) _
            refine XS.istore X0.here hx rfl (hb hby d5_150) rfl (l' := #[.val (.ref o0), .val (.int p1), .val (.int p2), .val (.int ((own_at cs p1) &&& (255 : Int32))), .val (.int (1 : Int32)), .val (.int (((((own_at cs p1) &&& (255 : Int32)) &&& (31 : Int32)) <<< ((6 : Int32) &&& 31)) ||| (((own_at cs (p1 + (1 : Int32))) &&& (255 : Int32)) &&& (63 : Int32)))), .val (.int (128 : Int32)), .val (.int ((own_at cs (p1 + (1 : Int32))) &&& (255 : Int32))), .unset]) rfl ?_
            show Steps p.tables e below (s₁.setTop (mkF m 152 #[.val (.ref o0), .val (.int p1), .val (.int p2), .val (.int ((own_at cs p1) &&& (255 : Int32))), .val (.int (1 : Int32)), .val (.int (((((own_at cs p1) &&& (255 : Int32)) &&& (31 : Int32)) <<< ((6 : Int32) &&& 31)) ||| (((own_at cs (p1 + (1 : Int32))) &&& (255 : Int32)) &&& (63 : Int32)))), .val (.int (128 : Int32)), .val (.int ((own_at cs (p1 + (1 : Int32))) &&& (255 : Int32))), .unset] [])) _
            refine XS.iload X0.here hx rfl (hb hby d5_152) rfl ?_
            show Steps p.tables e below (s₁.setTop (mkF m 154 #[.val (.ref o0), .val (.int p1), .val (.int p2), .val (.int ((own_at cs p1) &&& (255 : Int32))), .val (.int (1 : Int32)), .val (.int (((((own_at cs p1) &&& (255 : Int32)) &&& (31 : Int32)) <<< ((6 : Int32) &&& 31)) ||| (((own_at cs (p1 + (1 : Int32))) &&& (255 : Int32)) &&& (63 : Int32)))), .val (.int (128 : Int32)), .val (.int ((own_at cs (p1 + (1 : Int32))) &&& (255 : Int32))), .unset] [(.int (1 : Int32))])) _
            refine XS.iconst X0.here hx rfl (hb hby d5_154) ?_
            show Steps p.tables e below (s₁.setTop (mkF m 155 #[.val (.ref o0), .val (.int p1), .val (.int p2), .val (.int ((own_at cs p1) &&& (255 : Int32))), .val (.int (1 : Int32)), .val (.int (((((own_at cs p1) &&& (255 : Int32)) &&& (31 : Int32)) <<< ((6 : Int32) &&& 31)) ||| (((own_at cs (p1 + (1 : Int32))) &&& (255 : Int32)) &&& (63 : Int32)))), .val (.int (128 : Int32)), .val (.int ((own_at cs (p1 + (1 : Int32))) &&& (255 : Int32))), .unset] [(.int (2 : Int32)), (.int (1 : Int32))])) _
            refine XS.icmpYes X0.here hx rfl (pc0 := 155) (pc' := 196) rfl (hb hby d5_155) rfl (tlt ((by decide) : (1 : Int32) < (2 : Int32))).1 (by decide) (by decide) ?_
            show Steps p.tables e below (s₁.setTop (mkF m 196 #[.val (.ref o0), .val (.int p1), .val (.int p2), .val (.int ((own_at cs p1) &&& (255 : Int32))), .val (.int (1 : Int32)), .val (.int (((((own_at cs p1) &&& (255 : Int32)) &&& (31 : Int32)) <<< ((6 : Int32) &&& 31)) ||| (((own_at cs (p1 + (1 : Int32))) &&& (255 : Int32)) &&& (63 : Int32)))), .val (.int (128 : Int32)), .val (.int ((own_at cs (p1 + (1 : Int32))) &&& (255 : Int32))), .unset] [])) _
            refine XS.iload X0.here hx rfl (hb hby d5_196) rfl ?_
            show Steps p.tables e below (s₁.setTop (mkF m 198 #[.val (.ref o0), .val (.int p1), .val (.int p2), .val (.int ((own_at cs p1) &&& (255 : Int32))), .val (.int (1 : Int32)), .val (.int (((((own_at cs p1) &&& (255 : Int32)) &&& (31 : Int32)) <<< ((6 : Int32) &&& 31)) ||| (((own_at cs (p1 + (1 : Int32))) &&& (255 : Int32)) &&& (63 : Int32)))), .val (.int (128 : Int32)), .val (.int ((own_at cs (p1 + (1 : Int32))) &&& (255 : Int32))), .unset] [(.int (1 : Int32))])) _
            refine XS.iconst X0.here hx rfl (hb hby d5_198) ?_
            show Steps p.tables e below (s₁.setTop (mkF m 199 #[.val (.ref o0), .val (.int p1), .val (.int p2), .val (.int ((own_at cs p1) &&& (255 : Int32))), .val (.int (1 : Int32)), .val (.int (((((own_at cs p1) &&& (255 : Int32)) &&& (31 : Int32)) <<< ((6 : Int32) &&& 31)) ||| (((own_at cs (p1 + (1 : Int32))) &&& (255 : Int32)) &&& (63 : Int32)))), .val (.int (128 : Int32)), .val (.int ((own_at cs (p1 + (1 : Int32))) &&& (255 : Int32))), .unset] [(.int (3 : Int32)), (.int (1 : Int32))])) _
            refine XS.icmpYes X0.here hx rfl (pc0 := 199) (pc' := 240) rfl (hb hby d5_199) rfl (tlt ((by decide) : (1 : Int32) < (3 : Int32))).1 (by decide) (by decide) ?_
            show Steps p.tables e below (s₁.setTop (mkF m 240 #[.val (.ref o0), .val (.int p1), .val (.int p2), .val (.int ((own_at cs p1) &&& (255 : Int32))), .val (.int (1 : Int32)), .val (.int (((((own_at cs p1) &&& (255 : Int32)) &&& (31 : Int32)) <<< ((6 : Int32) &&& 31)) ||| (((own_at cs (p1 + (1 : Int32))) &&& (255 : Int32)) &&& (63 : Int32)))), .val (.int (128 : Int32)), .val (.int ((own_at cs (p1 + (1 : Int32))) &&& (255 : Int32))), .unset] [])) _
            refine XS.iload X0.here hx rfl (hb hby d5_240) rfl ?_
            show Steps p.tables e below (s₁.setTop (mkF m 242 #[.val (.ref o0), .val (.int p1), .val (.int p2), .val (.int ((own_at cs p1) &&& (255 : Int32))), .val (.int (1 : Int32)), .val (.int (((((own_at cs p1) &&& (255 : Int32)) &&& (31 : Int32)) <<< ((6 : Int32) &&& 31)) ||| (((own_at cs (p1 + (1 : Int32))) &&& (255 : Int32)) &&& (63 : Int32)))), .val (.int (128 : Int32)), .val (.int ((own_at cs (p1 + (1 : Int32))) &&& (255 : Int32))), .unset] [(.int (((((own_at cs p1) &&& (255 : Int32)) &&& (31 : Int32)) <<< ((6 : Int32) &&& 31)) ||| (((own_at cs (p1 + (1 : Int32))) &&& (255 : Int32)) &&& (63 : Int32))))])) _
            refine XS.iload X0.here hx rfl (hb hby d5_242) rfl ?_
            exact k)
          by_cases hc244_12 : (((((own_at cs p1) &&& (255 : Int32)) &&& (31 : Int32)) <<< ((6 : Int32) &&& 31)) ||| (((own_at cs (p1 + (1 : Int32))) &&& (255 : Int32)) &&& (63 : Int32))) < (128 : Int32)
          · obtain ⟨fs, hr, hrun, hended, hW, hsame⟩ := X0.leave (v := some (.int (-1 : Int32))) (fun h => by rw [Bd.returns] at h; cases h)
            refine ⟨_, _, pre11 _ ?_, hrun, hended, _, _, rfl, ?_, ⟨_, rfl⟩, hW, hsame.mono (by decide) (by decide)⟩
            · show Steps p.tables e below (s₁.setTop (mkF m 244 #[.val (.ref o0), .val (.int p1), .val (.int p2), .val (.int ((own_at cs p1) &&& (255 : Int32))), .val (.int (1 : Int32)), .val (.int (((((own_at cs p1) &&& (255 : Int32)) &&& (31 : Int32)) <<< ((6 : Int32) &&& 31)) ||| (((own_at cs (p1 + (1 : Int32))) &&& (255 : Int32)) &&& (63 : Int32)))), .val (.int (128 : Int32)), .val (.int ((own_at cs (p1 + (1 : Int32))) &&& (255 : Int32))), .unset] [(.int (128 : Int32)), (.int (((((own_at cs p1) &&& (255 : Int32)) &&& (31 : Int32)) <<< ((6 : Int32) &&& 31)) ||| (((own_at cs (p1 + (1 : Int32))) &&& (255 : Int32)) &&& (63 : Int32))))])) _
              refine XS.icmpYes X0.here hx rfl (pc0 := 244) (pc' := 268) rfl (hb hby d5_244) rfl (tlt hc244_12).1 (by decide) (by decide) ?_
              show Steps p.tables e below (s₁.setTop (mkF m 268 #[.val (.ref o0), .val (.int p1), .val (.int p2), .val (.int ((own_at cs p1) &&& (255 : Int32))), .val (.int (1 : Int32)), .val (.int (((((own_at cs p1) &&& (255 : Int32)) &&& (31 : Int32)) <<< ((6 : Int32) &&& 31)) ||| (((own_at cs (p1 + (1 : Int32))) &&& (255 : Int32)) &&& (63 : Int32)))), .val (.int (128 : Int32)), .val (.int ((own_at cs (p1 + (1 : Int32))) &&& (255 : Int32))), .unset] [])) _
              refine XS.iconst X0.here hx rfl (hb hby d5_268) ?_
              show Steps p.tables e below (s₁.setTop (mkF m 269 #[.val (.ref o0), .val (.int p1), .val (.int p2), .val (.int ((own_at cs p1) &&& (255 : Int32))), .val (.int (1 : Int32)), .val (.int (((((own_at cs p1) &&& (255 : Int32)) &&& (31 : Int32)) <<< ((6 : Int32) &&& 31)) ||| (((own_at cs (p1 + (1 : Int32))) &&& (255 : Int32)) &&& (63 : Int32)))), .val (.int (128 : Int32)), .val (.int ((own_at cs (p1 + (1 : Int32))) &&& (255 : Int32))), .unset] [(.int (-1 : Int32))])) _
              exact retI X0 hx Bd.returns (hb hby d5_269) hr
            · show rm5Q Z cs p1 p2 h0 n0 _ s₁.heap _
              rw [e0]
              exact ⟨(by rw [show own_f5 cs p1 p2 = (-1 : Int32) from by simp only [own_f5, if_neg hc12_3, if_pos hc27_5, if_pos hc109_7, if_pos hc134_10, if_pos hc244_12]]), N0, rfl⟩
          · have pre13 : ∀ t, Steps p.tables e below (s₁.setTop (mkF m 251 #[.val (.ref o0), .val (.int p1), .val (.int p2), .val (.int ((own_at cs p1) &&& (255 : Int32))), .val (.int (1 : Int32)), .val (.int (((((own_at cs p1) &&& (255 : Int32)) &&& (31 : Int32)) <<< ((6 : Int32) &&& 31)) ||| (((own_at cs (p1 + (1 : Int32))) &&& (255 : Int32)) &&& (63 : Int32)))), .val (.int (128 : Int32)), .val (.int ((own_at cs (p1 + (1 : Int32))) &&& (255 : Int32))), .unset] [(.int (1114111 : Int32)), (.int (((((own_at cs p1) &&& (255 : Int32)) &&& (31 : Int32)) <<< ((6 : Int32) &&& 31)) ||| (((own_at cs (p1 + (1 : Int32))) &&& (255 : Int32)) &&& (63 : Int32))))])) t → Steps p.tables e below (s₁.setTop (entryFrame m #[(.ref o0), (.int p1), (.int p2)] 9)) t := fun t k => pre11 t (by
              show Steps p.tables e below (s₁.setTop (mkF m 244 #[.val (.ref o0), .val (.int p1), .val (.int p2), .val (.int ((own_at cs p1) &&& (255 : Int32))), .val (.int (1 : Int32)), .val (.int (((((own_at cs p1) &&& (255 : Int32)) &&& (31 : Int32)) <<< ((6 : Int32) &&& 31)) ||| (((own_at cs (p1 + (1 : Int32))) &&& (255 : Int32)) &&& (63 : Int32)))), .val (.int (128 : Int32)), .val (.int ((own_at cs (p1 + (1 : Int32))) &&& (255 : Int32))), .unset] [(.int (128 : Int32)), (.int (((((own_at cs p1) &&& (255 : Int32)) &&& (31 : Int32)) <<< ((6 : Int32) &&& 31)) ||| (((own_at cs (p1 + (1 : Int32))) &&& (255 : Int32)) &&& (63 : Int32))))])) _
              refine XS.icmpNo X0.here hx rfl (hb hby d5_244) rfl (flt hc244_12).1 ?_
              show Steps p.tables e below (s₁.setTop (mkF m 247 #[.val (.ref o0), .val (.int p1), .val (.int p2), .val (.int ((own_at cs p1) &&& (255 : Int32))), .val (.int (1 : Int32)), .val (.int (((((own_at cs p1) &&& (255 : Int32)) &&& (31 : Int32)) <<< ((6 : Int32) &&& 31)) ||| (((own_at cs (p1 + (1 : Int32))) &&& (255 : Int32)) &&& (63 : Int32)))), .val (.int (128 : Int32)), .val (.int ((own_at cs (p1 + (1 : Int32))) &&& (255 : Int32))), .unset] [])) _
              refine XS.iload X0.here hx rfl (hb hby d5_247) rfl ?_
              show Steps p.tables e below (s₁.setTop (mkF m 249 #[.val (.ref o0), .val (.int p1), .val (.int p2), .val (.int ((own_at cs p1) &&& (255 : Int32))), .val (.int (1 : Int32)), .val (.int (((((own_at cs p1) &&& (255 : Int32)) &&& (31 : Int32)) <<< ((6 : Int32) &&& 31)) ||| (((own_at cs (p1 + (1 : Int32))) &&& (255 : Int32)) &&& (63 : Int32)))), .val (.int (128 : Int32)), .val (.int ((own_at cs (p1 + (1 : Int32))) &&& (255 : Int32))), .unset] [(.int (((((own_at cs p1) &&& (255 : Int32)) &&& (31 : Int32)) <<< ((6 : Int32) &&& 31)) ||| (((own_at cs (p1 + (1 : Int32))) &&& (255 : Int32)) &&& (63 : Int32))))])) _
              refine X0.ldcInt hx hown (mvT hZ (hw _ (List.mem_of_getElem? (i := 20) rfl))) (g := (mkF m 249 #[.val (.ref o0), .val (.int p1), .val (.int p2), .val (.int ((own_at cs p1) &&& (255 : Int32))), .val (.int (1 : Int32)), .val (.int (((((own_at cs p1) &&& (255 : Int32)) &&& (31 : Int32)) <<< ((6 : Int32) &&& 31)) ||| (((own_at cs (p1 + (1 : Int32))) &&& (255 : Int32)) &&& (63 : Int32)))), .val (.int (128 : Int32)), .val (.int ((own_at cs (p1 + (1 : Int32))) &&& (255 : Int32))), .unset] [(.int (((((own_at cs p1) &&& (255 : Int32)) &&& (31 : Int32)) <<< ((6 : Int32) &&& 31)) ||| (((own_at cs (p1 + (1 : Int32))) &&& (255 : Int32)) &&& (63 : Int32))))])) rfl (hb hby d5_249) _ ?_
              exact k)
            by_cases hc251_14 : (1114111 : Int32) < (((((own_at cs p1) &&& (255 : Int32)) &&& (31 : Int32)) <<< ((6 : Int32) &&& 31)) ||| (((own_at cs (p1 + (1 : Int32))) &&& (255 : Int32)) &&& (63 : Int32)))
            · obtain ⟨fs, hr, hrun, hended, hW, hsame⟩ := X0.leave (v := some (.int (-1 : Int32))) (fun h => by rw [Bd.returns] at h; cases h)
              refine ⟨_, _, pre13 _ ?_, hrun, hended, _, _, rfl, ?_, ⟨_, rfl⟩, hW, hsame.mono (by decide) (by decide)⟩
              · show Steps p.tables e below (s₁.setTop (mkF m 251 #[.val (.ref o0), .val (.int p1), .val (.int p2), .val (.int ((own_at cs p1) &&& (255 : Int32))), .val (.int (1 : Int32)), .val (.int (((((own_at cs p1) &&& (255 : Int32)) &&& (31 : Int32)) <<< ((6 : Int32) &&& 31)) ||| (((own_at cs (p1 + (1 : Int32))) &&& (255 : Int32)) &&& (63 : Int32)))), .val (.int (128 : Int32)), .val (.int ((own_at cs (p1 + (1 : Int32))) &&& (255 : Int32))), .unset] [(.int (1114111 : Int32)), (.int (((((own_at cs p1) &&& (255 : Int32)) &&& (31 : Int32)) <<< ((6 : Int32) &&& 31)) ||| (((own_at cs (p1 + (1 : Int32))) &&& (255 : Int32)) &&& (63 : Int32))))])) _
                refine XS.icmpYes X0.here hx rfl (pc0 := 251) (pc' := 268) rfl (hb hby d5_251) rfl (tlt hc251_14).2.2.1 (by decide) (by decide) ?_
                show Steps p.tables e below (s₁.setTop (mkF m 268 #[.val (.ref o0), .val (.int p1), .val (.int p2), .val (.int ((own_at cs p1) &&& (255 : Int32))), .val (.int (1 : Int32)), .val (.int (((((own_at cs p1) &&& (255 : Int32)) &&& (31 : Int32)) <<< ((6 : Int32) &&& 31)) ||| (((own_at cs (p1 + (1 : Int32))) &&& (255 : Int32)) &&& (63 : Int32)))), .val (.int (128 : Int32)), .val (.int ((own_at cs (p1 + (1 : Int32))) &&& (255 : Int32))), .unset] [])) _
                refine XS.iconst X0.here hx rfl (hb hby d5_268) ?_
                show Steps p.tables e below (s₁.setTop (mkF m 269 #[.val (.ref o0), .val (.int p1), .val (.int p2), .val (.int ((own_at cs p1) &&& (255 : Int32))), .val (.int (1 : Int32)), .val (.int (((((own_at cs p1) &&& (255 : Int32)) &&& (31 : Int32)) <<< ((6 : Int32) &&& 31)) ||| (((own_at cs (p1 + (1 : Int32))) &&& (255 : Int32)) &&& (63 : Int32)))), .val (.int (128 : Int32)), .val (.int ((own_at cs (p1 + (1 : Int32))) &&& (255 : Int32))), .unset] [(.int (-1 : Int32))])) _
                exact retI X0 hx Bd.returns (hb hby d5_269) hr
              · show rm5Q Z cs p1 p2 h0 n0 _ s₁.heap _
                rw [e0]
                exact ⟨(by rw [show own_f5 cs p1 p2 = (-1 : Int32) from by simp only [own_f5, if_neg hc12_3, if_pos hc27_5, if_pos hc109_7, if_pos hc134_10, if_neg hc244_12, if_pos hc251_14]]), N0, rfl⟩
            · have pre15 : ∀ t, Steps p.tables e below (s₁.setTop (mkF m 258 #[.val (.ref o0), .val (.int p1), .val (.int p2), .val (.int ((own_at cs p1) &&& (255 : Int32))), .val (.int (1 : Int32)), .val (.int (((((own_at cs p1) &&& (255 : Int32)) &&& (31 : Int32)) <<< ((6 : Int32) &&& 31)) ||| (((own_at cs (p1 + (1 : Int32))) &&& (255 : Int32)) &&& (63 : Int32)))), .val (.int (128 : Int32)), .val (.int ((own_at cs (p1 + (1 : Int32))) &&& (255 : Int32))), .unset] [(.int (55296 : Int32)), (.int (((((own_at cs p1) &&& (255 : Int32)) &&& (31 : Int32)) <<< ((6 : Int32) &&& 31)) ||| (((own_at cs (p1 + (1 : Int32))) &&& (255 : Int32)) &&& (63 : Int32))))])) t → Steps p.tables e below (s₁.setTop (entryFrame m #[(.ref o0), (.int p1), (.int p2)] 9)) t := fun t k => pre13 t (by
                show Steps p.tables e below (s₁.setTop (mkF m 251 #[.val (.ref o0), .val (.int p1), .val (.int p2), .val (.int ((own_at cs p1) &&& (255 : Int32))), .val (.int (1 : Int32)), .val (.int (((((own_at cs p1) &&& (255 : Int32)) &&& (31 : Int32)) <<< ((6 : Int32) &&& 31)) ||| (((own_at cs (p1 + (1 : Int32))) &&& (255 : Int32)) &&& (63 : Int32)))), .val (.int (128 : Int32)), .val (.int ((own_at cs (p1 + (1 : Int32))) &&& (255 : Int32))), .unset] [(.int (1114111 : Int32)), (.int (((((own_at cs p1) &&& (255 : Int32)) &&& (31 : Int32)) <<< ((6 : Int32) &&& 31)) ||| (((own_at cs (p1 + (1 : Int32))) &&& (255 : Int32)) &&& (63 : Int32))))])) _
                refine XS.icmpNo X0.here hx rfl (hb hby d5_251) rfl (flt hc251_14).2.2.1 ?_
                show Steps p.tables e below (s₁.setTop (mkF m 254 #[.val (.ref o0), .val (.int p1), .val (.int p2), .val (.int ((own_at cs p1) &&& (255 : Int32))), .val (.int (1 : Int32)), .val (.int (((((own_at cs p1) &&& (255 : Int32)) &&& (31 : Int32)) <<< ((6 : Int32) &&& 31)) ||| (((own_at cs (p1 + (1 : Int32))) &&& (255 : Int32)) &&& (63 : Int32)))), .val (.int (128 : Int32)), .val (.int ((own_at cs (p1 + (1 : Int32))) &&& (255 : Int32))), .unset] [])) _
                refine XS.iload X0.here hx rfl (hb hby d5_254) rfl ?_
                show Steps p.tables e below (s₁.setTop (mkF m 256 #[.val (.ref o0), .val (.int p1), .val (.int p2), .val (.int ((own_at cs p1) &&& (255 : Int32))), .val (.int (1 : Int32)), .val (.int (((((own_at cs p1) &&& (255 : Int32)) &&& (31 : Int32)) <<< ((6 : Int32) &&& 31)) ||| (((own_at cs (p1 + (1 : Int32))) &&& (255 : Int32)) &&& (63 : Int32)))), .val (.int (128 : Int32)), .val (.int ((own_at cs (p1 + (1 : Int32))) &&& (255 : Int32))), .unset] [(.int (((((own_at cs p1) &&& (255 : Int32)) &&& (31 : Int32)) <<< ((6 : Int32) &&& 31)) ||| (((own_at cs (p1 + (1 : Int32))) &&& (255 : Int32)) &&& (63 : Int32))))])) _
                refine X0.ldcInt hx hown (mvT hZ (hw _ (List.mem_of_getElem? (i := 21) rfl))) (g := (mkF m 256 #[.val (.ref o0), .val (.int p1), .val (.int p2), .val (.int ((own_at cs p1) &&& (255 : Int32))), .val (.int (1 : Int32)), .val (.int (((((own_at cs p1) &&& (255 : Int32)) &&& (31 : Int32)) <<< ((6 : Int32) &&& 31)) ||| (((own_at cs (p1 + (1 : Int32))) &&& (255 : Int32)) &&& (63 : Int32)))), .val (.int (128 : Int32)), .val (.int ((own_at cs (p1 + (1 : Int32))) &&& (255 : Int32))), .unset] [(.int (((((own_at cs p1) &&& (255 : Int32)) &&& (31 : Int32)) <<< ((6 : Int32) &&& 31)) ||| (((own_at cs (p1 + (1 : Int32))) &&& (255 : Int32)) &&& (63 : Int32))))])) rfl (hb hby d5_256) _ ?_
                exact k)
              by_cases hc258_16 : (((((own_at cs p1) &&& (255 : Int32)) &&& (31 : Int32)) <<< ((6 : Int32) &&& 31)) ||| (((own_at cs (p1 + (1 : Int32))) &&& (255 : Int32)) &&& (63 : Int32))) < (55296 : Int32)
              · obtain ⟨fs, hr, hrun, hended, hW, hsame⟩ := X0.leave (v := some (.int ((p1 + (1 : Int32)) + (1 : Int32)))) (fun h => by rw [Bd.returns] at h; cases h)
                refine ⟨_, _, pre15 _ ?_, hrun, hended, _, _, rfl, ?_, ⟨_, rfl⟩, hW, hsame.mono (by decide) (by decide)⟩
                · show Steps p.tables e below (s₁.setTop (mkF m 258 #[.val (.ref o0), .val (.int p1), .val (.int p2), .val (.int ((own_at cs p1) &&& (255 : Int32))), .val (.int (1 : Int32)), .val (.int (((((own_at cs p1) &&& (255 : Int32)) &&& (31 : Int32)) <<< ((6 : Int32) &&& 31)) ||| (((own_at cs (p1 + (1 : Int32))) &&& (255 : Int32)) &&& (63 : Int32)))), .val (.int (128 : Int32)), .val (.int ((own_at cs (p1 + (1 : Int32))) &&& (255 : Int32))), .unset] [(.int (55296 : Int32)), (.int (((((own_at cs p1) &&& (255 : Int32)) &&& (31 : Int32)) <<< ((6 : Int32) &&& 31)) ||| (((own_at cs (p1 + (1 : Int32))) &&& (255 : Int32)) &&& (63 : Int32))))])) _
                  refine XS.icmpYes X0.here hx rfl (pc0 := 258) (pc' := 270) rfl (hb hby d5_258) rfl (tlt hc258_16).1 (by decide) (by decide) ?_
                  show Steps p.tables e below (s₁.setTop (mkF m 270 #[.val (.ref o0), .val (.int p1), .val (.int p2), .val (.int ((own_at cs p1) &&& (255 : Int32))), .val (.int (1 : Int32)), .val (.int (((((own_at cs p1) &&& (255 : Int32)) &&& (31 : Int32)) <<< ((6 : Int32) &&& 31)) ||| (((own_at cs (p1 + (1 : Int32))) &&& (255 : Int32)) &&& (63 : Int32)))), .val (.int (128 : Int32)), .val (.int ((own_at cs (p1 + (1 : Int32))) &&& (255 : Int32))), .unset] [])) _
                  refine XS.iloadN X0.here hx rfl (hb hby d5_270) rfl ?_
                  show Steps p.tables e below (s₁.setTop (mkF m 271 #[.val (.ref o0), .val (.int p1), .val (.int p2), .val (.int ((own_at cs p1) &&& (255 : Int32))), .val (.int (1 : Int32)), .val (.int (((((own_at cs p1) &&& (255 : Int32)) &&& (31 : Int32)) <<< ((6 : Int32) &&& 31)) ||| (((own_at cs (p1 + (1 : Int32))) &&& (255 : Int32)) &&& (63 : Int32)))), .val (.int (128 : Int32)), .val (.int ((own_at cs (p1 + (1 : Int32))) &&& (255 : Int32))), .unset] [(.int p1)])) _
                  refine XS.iload X0.here hx rfl (hb hby d5_271) rfl ?_
                  show Steps p.tables e below (s₁.setTop (mkF m 273 #[.val (.ref o0), .val (.int p1), .val (.int p2), .val (.int ((own_at cs p1) &&& (255 : Int32))), .val (.int (1 : Int32)), .val (.int (((((own_at cs p1) &&& (255 : Int32)) &&& (31 : Int32)) <<< ((6 : Int32) &&& 31)) ||| (((own_at cs (p1 + (1 : Int32))) &&& (255 : Int32)) &&& (63 : Int32)))), .val (.int (128 : Int32)), .val (.int ((own_at cs (p1 + (1 : Int32))) &&& (255 : Int32))), .unset] [(.int (1 : Int32)), (.int p1)])) _
                  refine XS.iadd X0.here hx rfl (hb hby d5_273) rfl ?_
                  show Steps p.tables e below (s₁.setTop (mkF m 274 #[.val (.ref o0), .val (.int p1), .val (.int p2), .val (.int ((own_at cs p1) &&& (255 : Int32))), .val (.int (1 : Int32)), .val (.int (((((own_at cs p1) &&& (255 : Int32)) &&& (31 : Int32)) <<< ((6 : Int32) &&& 31)) ||| (((own_at cs (p1 + (1 : Int32))) &&& (255 : Int32)) &&& (63 : Int32)))), .val (.int (128 : Int32)), .val (.int ((own_at cs (p1 + (1 : Int32))) &&& (255 : Int32))), .unset] [(.int (p1 + (1 : Int32)))])) _
                  refine XS.iconst X0.here hx rfl (hb hby d5_274) ?_
                  show Steps p.tables e below (s₁.setTop (mkF m 275 #[.val (.ref o0), .val (.int p1), .val (.int p2), .val (.int ((own_at cs p1) &&& (255 : Int32))), .val (.int (1 : Int32)), .val (.int (((((own_at cs p1) &&& (255 : Int32)) &&& (31 : Int32)) <<< ((6 : Int32) &&& 31)) ||| (((own_at cs (p1 + (1 : Int32))) &&& (255 : Int32)) &&& (63 : Int32)))), .val (.int (128 : Int32)), .val (.int ((own_at cs (p1 + (1 : Int32))) &&& (255 : Int32))), .unset] [(.int (1 : Int32)), (.int (p1 + (1 : Int32)))])) _
                  refine XS.iadd X0.here hx rfl (hb hby d5_275) rfl ?_
                  show Steps p.tables e below (s₁.setTop (mkF m 276 #[.val (.ref o0), .val (.int p1), .val (.int p2), .val (.int ((own_at cs p1) &&& (255 : Int32))), .val (.int (1 : Int32)), .val (.int (((((own_at cs p1) &&& (255 : Int32)) &&& (31 : Int32)) <<< ((6 : Int32) &&& 31)) ||| (((own_at cs (p1 + (1 : Int32))) &&& (255 : Int32)) &&& (63 : Int32)))), .val (.int (128 : Int32)), .val (.int ((own_at cs (p1 + (1 : Int32))) &&& (255 : Int32))), .unset] [(.int ((p1 + (1 : Int32)) + (1 : Int32)))])) _
                  exact retI X0 hx Bd.returns (hb hby d5_276) hr
                · show rm5Q Z cs p1 p2 h0 n0 _ s₁.heap _
                  rw [e0]
                  exact ⟨(by rw [show own_f5 cs p1 p2 = ((p1 + (1 : Int32)) + (1 : Int32)) from by simp only [own_f5, if_neg hc12_3, if_pos hc27_5, if_pos hc109_7, if_pos hc134_10, if_neg hc244_12, if_neg hc251_14, if_pos hc258_16]]), N0, rfl⟩
              · have pre17 : ∀ t, Steps p.tables e below (s₁.setTop (mkF m 265 #[.val (.ref o0), .val (.int p1), .val (.int p2), .val (.int ((own_at cs p1) &&& (255 : Int32))), .val (.int (1 : Int32)), .val (.int (((((own_at cs p1) &&& (255 : Int32)) &&& (31 : Int32)) <<< ((6 : Int32) &&& 31)) ||| (((own_at cs (p1 + (1 : Int32))) &&& (255 : Int32)) &&& (63 : Int32)))), .val (.int (128 : Int32)), .val (.int ((own_at cs (p1 + (1 : Int32))) &&& (255 : Int32))), .unset] [(.int (57343 : Int32)), (.int (((((own_at cs p1) &&& (255 : Int32)) &&& (31 : Int32)) <<< ((6 : Int32) &&& 31)) ||| (((own_at cs (p1 + (1 : Int32))) &&& (255 : Int32)) &&& (63 : Int32))))])) t → Steps p.tables e below (s₁.setTop (entryFrame m #[(.ref o0), (.int p1), (.int p2)] 9)) t := fun t k => pre15 t (by
                  show Steps p.tables e below (s₁.setTop (mkF m 258 #[.val (.ref o0), .val (.int p1), .val (.int p2), .val (.int ((own_at cs p1) &&& (255 : Int32))), .val (.int (1 : Int32)), .val (.int (((((own_at cs p1) &&& (255 : Int32)) &&& (31 : Int32)) <<< ((6 : Int32) &&& 31)) ||| (((own_at cs (p1 + (1 : Int32))) &&& (255 : Int32)) &&& (63 : Int32)))), .val (.int (128 : Int32)), .val (.int ((own_at cs (p1 + (1 : Int32))) &&& (255 : Int32))), .unset] [(.int (55296 : Int32)), (.int (((((own_at cs p1) &&& (255 : Int32)) &&& (31 : Int32)) <<< ((6 : Int32) &&& 31)) ||| (((own_at cs (p1 + (1 : Int32))) &&& (255 : Int32)) &&& (63 : Int32))))])) _
                  refine XS.icmpNo X0.here hx rfl (hb hby d5_258) rfl (flt hc258_16).1 ?_
                  show Steps p.tables e below (s₁.setTop (mkF m 261 #[.val (.ref o0), .val (.int p1), .val (.int p2), .val (.int ((own_at cs p1) &&& (255 : Int32))), .val (.int (1 : Int32)), .val (.int (((((own_at cs p1) &&& (255 : Int32)) &&& (31 : Int32)) <<< ((6 : Int32) &&& 31)) ||| (((own_at cs (p1 + (1 : Int32))) &&& (255 : Int32)) &&& (63 : Int32)))), .val (.int (128 : Int32)), .val (.int ((own_at cs (p1 + (1 : Int32))) &&& (255 : Int32))), .unset] [])) _
                  refine XS.iload X0.here hx rfl (hb hby d5_261) rfl ?_
                  show Steps p.tables e below (s₁.setTop (mkF m 263 #[.val (.ref o0), .val (.int p1), .val (.int p2), .val (.int ((own_at cs p1) &&& (255 : Int32))), .val (.int (1 : Int32)), .val (.int (((((own_at cs p1) &&& (255 : Int32)) &&& (31 : Int32)) <<< ((6 : Int32) &&& 31)) ||| (((own_at cs (p1 + (1 : Int32))) &&& (255 : Int32)) &&& (63 : Int32)))), .val (.int (128 : Int32)), .val (.int ((own_at cs (p1 + (1 : Int32))) &&& (255 : Int32))), .unset] [(.int (((((own_at cs p1) &&& (255 : Int32)) &&& (31 : Int32)) <<< ((6 : Int32) &&& 31)) ||| (((own_at cs (p1 + (1 : Int32))) &&& (255 : Int32)) &&& (63 : Int32))))])) _
                  refine X0.ldcInt hx hown (mvT hZ (hw _ (List.mem_of_getElem? (i := 23) rfl))) (g := (mkF m 263 #[.val (.ref o0), .val (.int p1), .val (.int p2), .val (.int ((own_at cs p1) &&& (255 : Int32))), .val (.int (1 : Int32)), .val (.int (((((own_at cs p1) &&& (255 : Int32)) &&& (31 : Int32)) <<< ((6 : Int32) &&& 31)) ||| (((own_at cs (p1 + (1 : Int32))) &&& (255 : Int32)) &&& (63 : Int32)))), .val (.int (128 : Int32)), .val (.int ((own_at cs (p1 + (1 : Int32))) &&& (255 : Int32))), .unset] [(.int (((((own_at cs p1) &&& (255 : Int32)) &&& (31 : Int32)) <<< ((6 : Int32) &&& 31)) ||| (((own_at cs (p1 + (1 : Int32))) &&& (255 : Int32)) &&& (63 : Int32))))])) rfl (hb hby d5_263) _ ?_
                  exact k)
                by_cases hc265_18 : (57343 : Int32) < (((((own_at cs p1) &&& (255 : Int32)) &&& (31 : Int32)) <<< ((6 : Int32) &&& 31)) ||| (((own_at cs (p1 + (1 : Int32))) &&& (255 : Int32)) &&& (63 : Int32)))
                · obtain ⟨fs, hr, hrun, hended, hW, hsame⟩ := X0.leave (v := some (.int ((p1 + (1 : Int32)) + (1 : Int32)))) (fun h => by rw [Bd.returns] at h; cases h)
                  refine ⟨_, _, pre17 _ ?_, hrun, hended, _, _, rfl, ?_, ⟨_, rfl⟩, hW, hsame.mono (by decide) (by decide)⟩
                  · show Steps p.tables e below (s₁.setTop (mkF m 265 #[.val (.ref o0), .val (.int p1), .val (.int p2), .val (.int ((own_at cs p1) &&& (255 : Int32))), .val (.int (1 : Int32)), .val (.int (((((own_at cs p1) &&& (255 : Int32)) &&& (31 : Int32)) <<< ((6 : Int32) &&& 31)) ||| (((own_at cs (p1 + (1 : Int32))) &&& (255 : Int32)) &&& (63 : Int32)))), .val (.int (128 : Int32)), .val (.int ((own_at cs (p1 + (1 : Int32))) &&& (255 : Int32))), .unset] [(.int (57343 : Int32)), (.int (((((own_at cs p1) &&& (255 : Int32)) &&& (31 : Int32)) <<< ((6 : Int32) &&& 31)) ||| (((own_at cs (p1 + (1 : Int32))) &&& (255 : Int32)) &&& (63 : Int32))))])) _
                    refine XS.icmpYes X0.here hx rfl (pc0 := 265) (pc' := 270) rfl (hb hby d5_265) rfl (tlt hc265_18).2.2.1 (by decide) (by decide) ?_
                    show Steps p.tables e below (s₁.setTop (mkF m 270 #[.val (.ref o0), .val (.int p1), .val (.int p2), .val (.int ((own_at cs p1) &&& (255 : Int32))), .val (.int (1 : Int32)), .val (.int (((((own_at cs p1) &&& (255 : Int32)) &&& (31 : Int32)) <<< ((6 : Int32) &&& 31)) ||| (((own_at cs (p1 + (1 : Int32))) &&& (255 : Int32)) &&& (63 : Int32)))), .val (.int (128 : Int32)), .val (.int ((own_at cs (p1 + (1 : Int32))) &&& (255 : Int32))), .unset] [])) _
                    refine XS.iloadN X0.here hx rfl (hb hby d5_270) rfl ?_
                    show Steps p.tables e below (s₁.setTop (mkF m 271 #[.val (.ref o0), .val (.int p1), .val (.int p2), .val (.int ((own_at cs p1) &&& (255 : Int32))), .val (.int (1 : Int32)), .val (.int (((((own_at cs p1) &&& (255 : Int32)) &&& (31 : Int32)) <<< ((6 : Int32) &&& 31)) ||| (((own_at cs (p1 + (1 : Int32))) &&& (255 : Int32)) &&& (63 : Int32)))), .val (.int (128 : Int32)), .val (.int ((own_at cs (p1 + (1 : Int32))) &&& (255 : Int32))), .unset] [(.int p1)])) _
                    refine XS.iload X0.here hx rfl (hb hby d5_271) rfl ?_
                    show Steps p.tables e below (s₁.setTop (mkF m 273 #[.val (.ref o0), .val (.int p1), .val (.int p2), .val (.int ((own_at cs p1) &&& (255 : Int32))), .val (.int (1 : Int32)), .val (.int (((((own_at cs p1) &&& (255 : Int32)) &&& (31 : Int32)) <<< ((6 : Int32) &&& 31)) ||| (((own_at cs (p1 + (1 : Int32))) &&& (255 : Int32)) &&& (63 : Int32)))), .val (.int (128 : Int32)), .val (.int ((own_at cs (p1 + (1 : Int32))) &&& (255 : Int32))), .unset] [(.int (1 : Int32)), (.int p1)])) _
                    refine XS.iadd X0.here hx rfl (hb hby d5_273) rfl ?_
                    show Steps p.tables e below (s₁.setTop (mkF m 274 #[.val (.ref o0), .val (.int p1), .val (.int p2), .val (.int ((own_at cs p1) &&& (255 : Int32))), .val (.int (1 : Int32)), .val (.int (((((own_at cs p1) &&& (255 : Int32)) &&& (31 : Int32)) <<< ((6 : Int32) &&& 31)) ||| (((own_at cs (p1 + (1 : Int32))) &&& (255 : Int32)) &&& (63 : Int32)))), .val (.int (128 : Int32)), .val (.int ((own_at cs (p1 + (1 : Int32))) &&& (255 : Int32))), .unset] [(.int (p1 + (1 : Int32)))])) _
                    refine XS.iconst X0.here hx rfl (hb hby d5_274) ?_
                    show Steps p.tables e below (s₁.setTop (mkF m 275 #[.val (.ref o0), .val (.int p1), .val (.int p2), .val (.int ((own_at cs p1) &&& (255 : Int32))), .val (.int (1 : Int32)), .val (.int (((((own_at cs p1) &&& (255 : Int32)) &&& (31 : Int32)) <<< ((6 : Int32) &&& 31)) ||| (((own_at cs (p1 + (1 : Int32))) &&& (255 : Int32)) &&& (63 : Int32)))), .val (.int (128 : Int32)), .val (.int ((own_at cs (p1 + (1 : Int32))) &&& (255 : Int32))), .unset] [(.int (1 : Int32)), (.int (p1 + (1 : Int32)))])) _
                    refine XS.iadd X0.here hx rfl (hb hby d5_275) rfl ?_
                    show Steps p.tables e below (s₁.setTop (mkF m 276 #[.val (.ref o0), .val (.int p1), .val (.int p2), .val (.int ((own_at cs p1) &&& (255 : Int32))), .val (.int (1 : Int32)), .val (.int (((((own_at cs p1) &&& (255 : Int32)) &&& (31 : Int32)) <<< ((6 : Int32) &&& 31)) ||| (((own_at cs (p1 + (1 : Int32))) &&& (255 : Int32)) &&& (63 : Int32)))), .val (.int (128 : Int32)), .val (.int ((own_at cs (p1 + (1 : Int32))) &&& (255 : Int32))), .unset] [(.int ((p1 + (1 : Int32)) + (1 : Int32)))])) _
                    exact retI X0 hx Bd.returns (hb hby d5_276) hr
                  · show rm5Q Z cs p1 p2 h0 n0 _ s₁.heap _
                    rw [e0]
                    exact ⟨(by rw [show own_f5 cs p1 p2 = ((p1 + (1 : Int32)) + (1 : Int32)) from by simp only [own_f5, if_neg hc12_3, if_pos hc27_5, if_pos hc109_7, if_pos hc134_10, if_neg hc244_12, if_neg hc251_14, if_neg hc258_16, if_pos hc265_18]]), N0, rfl⟩
                · obtain ⟨fs, hr, hrun, hended, hW, hsame⟩ := X0.leave (v := some (.int (-1 : Int32))) (fun h => by rw [Bd.returns] at h; cases h)
                  refine ⟨_, _, pre17 _ ?_, hrun, hended, _, _, rfl, ?_, ⟨_, rfl⟩, hW, hsame.mono (by decide) (by decide)⟩
                  · show Steps p.tables e below (s₁.setTop (mkF m 265 #[.val (.ref o0), .val (.int p1), .val (.int p2), .val (.int ((own_at cs p1) &&& (255 : Int32))), .val (.int (1 : Int32)), .val (.int (((((own_at cs p1) &&& (255 : Int32)) &&& (31 : Int32)) <<< ((6 : Int32) &&& 31)) ||| (((own_at cs (p1 + (1 : Int32))) &&& (255 : Int32)) &&& (63 : Int32)))), .val (.int (128 : Int32)), .val (.int ((own_at cs (p1 + (1 : Int32))) &&& (255 : Int32))), .unset] [(.int (57343 : Int32)), (.int (((((own_at cs p1) &&& (255 : Int32)) &&& (31 : Int32)) <<< ((6 : Int32) &&& 31)) ||| (((own_at cs (p1 + (1 : Int32))) &&& (255 : Int32)) &&& (63 : Int32))))])) _
                    refine XS.icmpNo X0.here hx rfl (hb hby d5_265) rfl (flt hc265_18).2.2.1 ?_
                    show Steps p.tables e below (s₁.setTop (mkF m 268 #[.val (.ref o0), .val (.int p1), .val (.int p2), .val (.int ((own_at cs p1) &&& (255 : Int32))), .val (.int (1 : Int32)), .val (.int (((((own_at cs p1) &&& (255 : Int32)) &&& (31 : Int32)) <<< ((6 : Int32) &&& 31)) ||| (((own_at cs (p1 + (1 : Int32))) &&& (255 : Int32)) &&& (63 : Int32)))), .val (.int (128 : Int32)), .val (.int ((own_at cs (p1 + (1 : Int32))) &&& (255 : Int32))), .unset] [])) _
                    refine XS.iconst X0.here hx rfl (hb hby d5_268) ?_
                    show Steps p.tables e below (s₁.setTop (mkF m 269 #[.val (.ref o0), .val (.int p1), .val (.int p2), .val (.int ((own_at cs p1) &&& (255 : Int32))), .val (.int (1 : Int32)), .val (.int (((((own_at cs p1) &&& (255 : Int32)) &&& (31 : Int32)) <<< ((6 : Int32) &&& 31)) ||| (((own_at cs (p1 + (1 : Int32))) &&& (255 : Int32)) &&& (63 : Int32)))), .val (.int (128 : Int32)), .val (.int ((own_at cs (p1 + (1 : Int32))) &&& (255 : Int32))), .unset] [(.int (-1 : Int32))])) _
                    exact retI X0 hx Bd.returns (hb hby d5_269) hr
                  · show rm5Q Z cs p1 p2 h0 n0 _ s₁.heap _
                    rw [e0]
                    exact ⟨(by rw [show own_f5 cs p1 p2 = (-1 : Int32) from by simp only [own_f5, if_neg hc12_3, if_pos hc27_5, if_pos hc109_7, if_pos hc134_10, if_neg hc244_12, if_neg hc251_14, if_neg hc258_16, if_neg hc265_18]]), N0, rfl⟩
        · obtain ⟨fs, hr, hrun, hended, hW, hsame⟩ := X0.leave (v := some (.int (-1 : Int32))) (fun h => by rw [Bd.returns] at h; cases h)
          refine ⟨_, _, pre9 _ ?_, hrun, hended, _, _, rfl, ?_, ⟨_, rfl⟩, hW, hsame.mono (by decide) (by decide)⟩
          · show Steps p.tables e below (s₁.setTop (mkF m 134 #[.val (.ref o0), .val (.int p1), .val (.int p2), .val (.int ((own_at cs p1) &&& (255 : Int32))), .val (.int (1 : Int32)), .val (.int (((own_at cs p1) &&& (255 : Int32)) &&& (31 : Int32))), .val (.int (128 : Int32)), .val (.int ((own_at cs (p1 + (1 : Int32))) &&& (255 : Int32))), .unset] [(.int (128 : Int32)), (.int (((own_at cs (p1 + (1 : Int32))) &&& (255 : Int32)) &&& (192 : Int32)))])) _
            refine XS.icmpNo X0.here hx rfl (hb hby d5_134) rfl (feq hc134_10).1 ?_
            show Steps p.tables e below (s₁.setTop (mkF m 137 #[.val (.ref o0), .val (.int p1), .val (.int p2), .val (.int ((own_at cs p1) &&& (255 : Int32))), .val (.int (1 : Int32)), .val (.int (((own_at cs p1) &&& (255 : Int32)) &&& (31 : Int32))), .val (.int (128 : Int32)), .val (.int ((own_at cs (p1 + (1 : Int32))) &&& (255 : Int32))), .unset] [])) _
            refine XS.iconst X0.here hx rfl (hb hby d5_137) ?_
            show Steps p.tables e below (s₁.setTop (mkF m 138 #[.val (.ref o0), .val (.int p1), .val (.int p2), .val (.int ((own_at cs p1) &&& (255 : Int32))), .val (.int (1 : Int32)), .val (.int (((own_at cs p1) &&& (255 : Int32)) &&& (31 : Int32))), .val (.int (128 : Int32)), .val (.int ((own_at cs (p1 + (1 : Int32))) &&& (255 : Int32))), .unset] [(.int (-1 : Int32))])) _
            exact retI X0 hx Bd.returns (hb hby d5_138) hr
          · show rm5Q Z cs p1 p2 h0 n0 _ s₁.heap _
            rw [e0]
            exact ⟨(by rw [show own_f5 cs p1 p2 = (-1 : Int32) from by simp only [own_f5, if_neg hc12_3, if_pos hc27_5, if_pos hc109_7, if_neg hc134_10]]), N0, rfl⟩
      · obtain ⟨fs, hr, hrun, hended, hW, hsame⟩ := X0.leave (v := some (.int (-1 : Int32))) (fun h => by rw [Bd.returns] at h; cases h)
        refine ⟨_, _, pre6 _ ?_, hrun, hended, _, _, rfl, ?_, ⟨_, rfl⟩, hW, hsame.mono (by decide) (by decide)⟩
        · show Steps p.tables e below (s₁.setTop (mkF m 109 #[.val (.ref o0), .val (.int p1), .val (.int p2), .val (.int ((own_at cs p1) &&& (255 : Int32))), .val (.int (1 : Int32)), .val (.int (((own_at cs p1) &&& (255 : Int32)) &&& (31 : Int32))), .val (.int (128 : Int32)), .unset, .unset] [(.int p2), (.int (p1 + (1 : Int32)))])) _
          refine XS.icmpNo X0.here hx rfl (hb hby d5_109) rfl (flt hc109_7).1 ?_
          show Steps p.tables e below (s₁.setTop (mkF m 112 #[.val (.ref o0), .val (.int p1), .val (.int p2), .val (.int ((own_at cs p1) &&& (255 : Int32))), .val (.int (1 : Int32)), .val (.int (((own_at cs p1) &&& (255 : Int32)) &&& (31 : Int32))), .val (.int (128 : Int32)), .unset, .unset] [])) _
          refine XS.iconst X0.here hx rfl (hb hby d5_112) ?_
          show Steps p.tables e below (s₁.setTop (mkF m 113 #[.val (.ref o0), .val (.int p1), .val (.int p2), .val (.int ((own_at cs p1) &&& (255 : Int32))), .val (.int (1 : Int32)), .val (.int (((own_at cs p1) &&& (255 : Int32)) &&& (31 : Int32))), .val (.int (128 : Int32)), .unset, .unset] [(.int (-1 : Int32))])) _
          exact retI X0 hx Bd.returns (hb hby d5_113) hr
        · show rm5Q Z cs p1 p2 h0 n0 _ s₁.heap _
          rw [e0]
          exact ⟨(by rw [show own_f5 cs p1 p2 = (-1 : Int32) from by simp only [own_f5, if_neg hc12_3, if_pos hc27_5, if_neg hc109_7]]), N0, rfl⟩
    · have pre19 : ∀ t, Steps p.tables e below (s₁.setTop (mkF m 55 #[.val (.ref o0), .val (.int p1), .val (.int p2), .val (.int ((own_at cs p1) &&& (255 : Int32))), .unset, .unset, .unset, .unset, .unset] [(.int (224 : Int32)), (.int (((own_at cs p1) &&& (255 : Int32)) &&& (240 : Int32)))])) t → Steps p.tables e below (s₁.setTop (entryFrame m #[(.ref o0), (.int p1), (.int p2)] 9)) t := fun t k => pre4 t (by
        show Steps p.tables e below (s₁.setTop (mkF m 27 #[.val (.ref o0), .val (.int p1), .val (.int p2), .val (.int ((own_at cs p1) &&& (255 : Int32))), .unset, .unset, .unset, .unset, .unset] [(.int (192 : Int32)), (.int (((own_at cs p1) &&& (255 : Int32)) &&& (224 : Int32)))])) _
        refine XS.icmpYes X0.here hx rfl (pc0 := 27) (pc' := 47) rfl (hb hby d5_27) rfl (feq hc27_5).2 (by decide) (by decide) ?_
        show Steps p.tables e below (s₁.setTop (mkF m 47 #[.val (.ref o0), .val (.int p1), .val (.int p2), .val (.int ((own_at cs p1) &&& (255 : Int32))), .unset, .unset, .unset, .unset, .unset] [])) _
        refine XS.iloadN X0.here hx rfl (hb hby d5_47) rfl ?_
        show Steps p.tables e below (s₁.setTop (mkF m 48 #[.val (.ref o0), .val (.int p1), .val (.int p2), .val (.int ((own_at cs p1) &&& (255 : Int32))), .unset, .unset, .unset, .unset, .unset] [(.int ((own_at cs p1) &&& (255 : Int32)))])) _
        refine XS.sipush X0.here hx rfl (hb hby d5_48) ?_
        show Steps p.tables e below (s₁.setTop (mkF m 51 #[.val (.ref o0), .val (.int p1), .val (.int p2), .val (.int ((own_at cs p1) &&& (255 : Int32))), .unset, .unset, .unset, .unset, .unset] [(.int (240 : Int32)), (.int ((own_at cs p1) &&& (255 : Int32)))])) _
        refine XS.iand X0.here hx rfl (hb hby d5_51) rfl ?_
        show Steps p.tables e below (s₁.setTop (mkF m 52 #[.val (.ref o0), .val (.int p1), .val (.int p2), .val (.int ((own_at cs p1) &&& (255 : Int32))), .unset, .unset, .unset, .unset, .unset] [(.int (((own_at cs p1) &&& (255 : Int32)) &&& (240 : Int32)))])) _
        refine XS.sipush X0.here hx rfl (hb hby d5_52) ?_
        exact k)
      by_cases hc55_20 : (((own_at cs p1) &&& (255 : Int32)) &&& (240 : Int32)) = (224 : Int32)
      · have pre21 : ∀ t, Steps p.tables e below (s₁.setTop (mkF m 109 #[.val (.ref o0), .val (.int p1), .val (.int p2), .val (.int ((own_at cs p1) &&& (255 : Int32))), .val (.int (2 : Int32)), .val (.int (((own_at cs p1) &&& (255 : Int32)) &&& (15 : Int32))), .val (.int (2048 : Int32)), .unset, .unset] [(.int p2), (.int (p1 + (2 : Int32)))])) t → Steps p.tables e below (s₁.setTop (entryFrame m #[(.ref o0), (.int p1), (.int p2)] 9)) t := fun t k => pre19 t (by
          show Steps p.tables e below (s₁.setTop (mkF m 55 #[.val (.ref o0), .val (.int p1), .val (.int p2), .val (.int ((own_at cs p1) &&& (255 : Int32))), .unset, .unset, .unset, .unset, .unset] [(.int (224 : Int32)), (.int (((own_at cs p1) &&& (255 : Int32)) &&& (240 : Int32)))])) _
          refine XS.icmpNo X0.here hx rfl (hb hby d5_55) rfl (teq hc55_20).2 ?_
          show Steps p.tables e below (s₁.setTop (mkF m 58 #[.val (.ref o0), .val (.int p1), .val (.int p2), .val (.int ((own_at cs p1) &&& (255 : Int32))), .unset, .unset, .unset, .unset, .unset] [])) _
          refine XS.iconst X0.here hx rfl (hb hby d5_58) ?_
          show Steps p.tables e below (s₁.setTop (mkF m 59 #[.val (.ref o0), .val (.int p1), .val (.int p2), .val (.int ((own_at cs p1) &&& (255 : Int32))), .unset, .unset, .unset, .unset, .unset] [(.int (2 : Int32))])) _
          refine XS.istore X0.here hx rfl (hb hby d5_59) rfl (l' := #[.val (.ref o0), .val (.int p1), .val (.int p2), .val (.int ((own_at cs p1) &&& (255 : Int32))), .val (.int (2 : Int32)), .unset, .unset, .unset, .unset]) rfl ?_
          show Steps p.tables e below (s₁.setTop (mkF m 61 #[.val (.ref o0), .val (.int p1), .val (.int p2), .val (.int ((own_at cs p1) &&& (255 : Int32))), .val (.int (2 : Int32)), .unset, .unset, .unset, .unset] [])) _
          refine XS.iloadN X0.here hx rfl (hb hby d5_61) rfl ?_
          show Steps p.tables e below (s₁.setTop (mkF m 62 #[.val (.ref o0), .val (.int p1), .val (.int p2), .val (.int ((own_at cs p1) &&& (255 : Int32))), .val (.int (2 : Int32)), .unset, .unset, .unset, .unset] [(.int ((own_at cs p1) &&& (255 : Int32)))])) _
          refine XS.bipush X0.here hx rfl (hb hby d5_62) ?_
          show Steps p.tables e below (s₁.setTop (mkF m 64 #[.val (.ref o0), .val (.int p1), .val (.int p2), .val (.int ((own_at cs p1) &&& (255 : Int32))), .val (.int (2 : Int32)), .unset, .unset, .unset, .unset] [(.int (15 : Int32)), (.int ((own_at cs p1) &&& (255 : Int32)))])) _
          refine XS.iand X0.here hx rfl (hb hby d5_64) rfl ?_
          show Steps p.tables e below (s₁.setTop (mkF m 65 #[.val (.ref o0), .val (.int p1), .val (.int p2), .val (.int ((own_at cs p1) &&& (255 : Int32))), .val (.int (2 : Int32)), .unset, .unset, .unset, .unset] [(.int (((own_at cs p1) &&& (255 : Int32)) &&& (15 : Int32)))])) _
          refine XS.istore X0.here hx rfl (hb hby d5_65) rfl (l' := #[.val (.ref o0), .val (.int p1), .val (.int p2), .val (.int ((own_at cs p1) &&& (255 : Int32))), .val (.int (2 : Int32)), .val (.int (((own_at cs p1) &&& (255 : Int32)) &&& (15 : Int32))), .unset, .unset, .unset]) rfl ?_
          show Steps p.tables e below (s₁.setTop (mkF m 67 #[.val (.ref o0), .val (.int p1), .val (.int p2), .val (.int ((own_at cs p1) &&& (255 : Int32))), .val (.int (2 : Int32)), .val (.int (((own_at cs p1) &&& (255 : Int32)) &&& (15 : Int32))), .unset, .unset, .unset] [])) _
          refine XS.sipush X0.here hx rfl (hb hby d5_67) ?_
          show Steps p.tables e below (s₁.setTop (mkF m 70 #[.val (.ref o0), .val (.int p1), .val (.int p2), .val (.int ((own_at cs p1) &&& (255 : Int32))), .val (.int (2 : Int32)), .val (.int (((own_at cs p1) &&& (255 : Int32)) &&& (15 : Int32))), .unset, .unset, .unset] [(.int (2048 : Int32))])) _
          refine XS.istore X0.here hx rfl (hb hby d5_70) rfl (l' := #[.val (.ref o0), .val (.int p1), .val (.int p2), .val (.int ((own_at cs p1) &&& (255 : Int32))), .val (.int (2 : Int32)), .val (.int (((own_at cs p1) &&& (255 : Int32)) &&& (15 : Int32))), .val (.int (2048 : Int32)), .unset, .unset]) rfl ?_
          show Steps p.tables e below (s₁.setTop (mkF m 72 #[.val (.ref o0), .val (.int p1), .val (.int p2), .val (.int ((own_at cs p1) &&& (255 : Int32))), .val (.int (2 : Int32)), .val (.int (((own_at cs p1) &&& (255 : Int32)) &&& (15 : Int32))), .val (.int (2048 : Int32)), .unset, .unset] [])) _
          refine XS.goto X0.here hx rfl (pc0 := 72) (pc' := 104) rfl (hb hby d5_72) (by decide) (by decide) ?_
          show Steps p.tables e below (s₁.setTop (mkF m 104 #[.val (.ref o0), .val (.int p1), .val (.int p2), .val (.int ((own_at cs p1) &&& (255 : Int32))), .val (.int (2 : Int32)), .val (.int (((own_at cs p1) &&& (255 : Int32)) &&& (15 : Int32))), .val (.int (2048 : Int32)), .unset, .unset] [])) _
          refine XS.iloadN X0.here hx rfl (hb hby d5_104) rfl ?_
          show Steps p.tables e below (s₁.setTop (mkF m 105 #[.val (.ref o0), .val (.int p1), .val (.int p2), .val (.int ((own_at cs p1) &&& (255 : Int32))), .val (.int (2 : Int32)), .val (.int (((own_at cs p1) &&& (255 : Int32)) &&& (15 : Int32))), .val (.int (2048 : Int32)), .unset, .unset] [(.int p1)])) _
          refine XS.iload X0.here hx rfl (hb hby d5_105) rfl ?_
          show Steps p.tables e below (s₁.setTop (mkF m 107 #[.val (.ref o0), .val (.int p1), .val (.int p2), .val (.int ((own_at cs p1) &&& (255 : Int32))), .val (.int (2 : Int32)), .val (.int (((own_at cs p1) &&& (255 : Int32)) &&& (15 : Int32))), .val (.int (2048 : Int32)), .unset, .unset] [(.int (2 : Int32)), (.int p1)])) _
          refine XS.iadd X0.here hx rfl (hb hby d5_107) rfl ?_
          show Steps p.tables e below (s₁.setTop (mkF m 108 #[.val (.ref o0), .val (.int p1), .val (.int p2), .val (.int ((own_at cs p1) &&& (255 : Int32))), .val (.int (2 : Int32)), .val (.int (((own_at cs p1) &&& (255 : Int32)) &&& (15 : Int32))), .val (.int (2048 : Int32)), .unset, .unset] [(.int (p1 + (2 : Int32)))])) _
          refine XS.iloadN X0.here hx rfl (hb hby d5_108) rfl ?_
          exact k)
        by_cases hc109_22 : (p1 + (2 : Int32)) < p2
        · obtain ⟨cl23, Ar23, q23, S23, N23', H23, G23⟩ := id V_a
          have hin23 : ¬ ((p1 + (1 : Int32)) < 0 ∨ cl23.slots.size ≤ ((p1 + (1 : Int32))).toNatClampNeg) := inb_of S23 (own_inS (n := (2 : Int32)) (k := (1 : Int32)) hi0 hi1 hi2 hc109_22 (by decide) (by decide) (by decide))
          have pre24 : ∀ t, Steps p.tables e below (s₁.setTop (mkF m 134 #[.val (.ref o0), .val (.int p1), .val (.int p2), .val (.int ((own_at cs p1) &&& (255 : Int32))), .val (.int (2 : Int32)), .val (.int (((own_at cs p1) &&& (255 : Int32)) &&& (15 : Int32))), .val (.int (2048 : Int32)), .val (.int ((own_at cs (p1 + (1 : Int32))) &&& (255 : Int32))), .unset] [(.int (128 : Int32)), (.int (((own_at cs (p1 + (1 : Int32))) &&& (255 : Int32)) &&& (192 : Int32)))])) t → Steps p.tables e below (s₁.setTop (entryFrame m #[(.ref o0), (.int p1), (.int p2)] 9)) t := fun t k => pre21 t (by
            show Steps p.tables e below (s₁.setTop (mkF m 109 #[.val (.ref o0), .val (.int p1), .val (.int p2), .val (.int ((own_at cs p1) &&& (255 : Int32))), .val (.int (2 : Int32)), .val (.int (((own_at cs p1) &&& (255 : Int32)) &&& (15 : Int32))), .val (.int (2048 : Int32)), .unset, .unset] [(.int p2), (.int (p1 + (2 : Int32)))])) _
            refine XS.icmpYes X0.here hx rfl (pc0 := 109) (pc' := 114) rfl (hb hby d5_109) rfl (tlt hc109_22).1 (by decide) (by decide) ?_
            show Steps p.tables e below (s₁.setTop (mkF m 114 #[.val (.ref o0), .val (.int p1), .val (.int p2), .val (.int ((own_at cs p1) &&& (255 : Int32))), .val (.int (2 : Int32)), .val (.int (((own_at cs p1) &&& (255 : Int32)) &&& (15 : Int32))), .val (.int (2048 : Int32)), .unset, .unset] [])) _
            refine XS.aloadN X0.here hx rfl (hb hby d5_114) rfl rfl ?_
            show Steps p.tables e below (s₁.setTop (mkF m 115 #[.val (.ref o0), .val (.int p1), .val (.int p2), .val (.int ((own_at cs p1) &&& (255 : Int32))), .val (.int (2 : Int32)), .val (.int (((own_at cs p1) &&& (255 : Int32)) &&& (15 : Int32))), .val (.int (2048 : Int32)), .unset, .unset] [(.ref o0)])) _
            refine XS.iloadN X0.here hx rfl (hb hby d5_115) rfl ?_
            show Steps p.tables e below (s₁.setTop (mkF m 116 #[.val (.ref o0), .val (.int p1), .val (.int p2), .val (.int ((own_at cs p1) &&& (255 : Int32))), .val (.int (2 : Int32)), .val (.int (((own_at cs p1) &&& (255 : Int32)) &&& (15 : Int32))), .val (.int (2048 : Int32)), .unset, .unset] [(.int p1), (.ref o0)])) _
            refine XS.iconst X0.here hx rfl (hb hby d5_116) ?_
            show Steps p.tables e below (s₁.setTop (mkF m 117 #[.val (.ref o0), .val (.int p1), .val (.int p2), .val (.int ((own_at cs p1) &&& (255 : Int32))), .val (.int (2 : Int32)), .val (.int (((own_at cs p1) &&& (255 : Int32)) &&& (15 : Int32))), .val (.int (2048 : Int32)), .unset, .unset] [(.int (1 : Int32)), (.int p1), (.ref o0)])) _
            refine XS.iadd X0.here hx rfl (hb hby d5_117) rfl ?_
            show Steps p.tables e below (s₁.setTop (mkF m 118 #[.val (.ref o0), .val (.int p1), .val (.int p2), .val (.int ((own_at cs p1) &&& (255 : Int32))), .val (.int (2 : Int32)), .val (.int (((own_at cs p1) &&& (255 : Int32)) &&& (15 : Int32))), .val (.int (2048 : Int32)), .unset, .unset] [(.int (p1 + (1 : Int32))), (.ref o0)])) _
            refine X0.baloadBytes hx (j := (p1 + (1 : Int32))) (v := (.int (own_at cs (p1 + (1 : Int32))))) (by rw [e0]; exact Ar23.1) (State.isArrayOf_alike hZ.alike Ar23.2.1) Ar23.2.2 hin23 (H23.at hin23 (own_getD cs _)) (g := (mkF m 118 #[.val (.ref o0), .val (.int p1), .val (.int p2), .val (.int ((own_at cs p1) &&& (255 : Int32))), .val (.int (2 : Int32)), .val (.int (((own_at cs p1) &&& (255 : Int32)) &&& (15 : Int32))), .val (.int (2048 : Int32)), .unset, .unset] [(.int (p1 + (1 : Int32))), (.ref o0)])) rfl rfl (hb hby d5_118) _ ?_
            show Steps p.tables e below (s₁.setTop (mkF m 119 #[.val (.ref o0), .val (.int p1), .val (.int p2), .val (.int ((own_at cs p1) &&& (255 : Int32))), .val (.int (2 : Int32)), .val (.int (((own_at cs p1) &&& (255 : Int32)) &&& (15 : Int32))), .val (.int (2048 : Int32)), .unset, .unset] [(.int (own_at cs (p1 + (1 : Int32))))])) _
            refine XS.sipush X0.here hx rfl (hb hby d5_119) ?_
            show Steps p.tables e below (s₁.setTop (mkF m 122 #[.val (.ref o0), .val (.int p1), .val (.int p2), .val (.int ((own_at cs p1) &&& (255 : Int32))), .val (.int (2 : Int32)), .val (.int (((own_at cs p1) &&& (255 : Int32)) &&& (15 : Int32))), .val (.int (2048 : Int32)), .unset, .unset] [(.int (255 : Int32)), (.int (own_at cs (p1 + (1 : Int32))))])) _
            refine XS.iand X0.here hx rfl (hb hby d5_122) rfl ?_
            show Steps p.tables e below (s₁.setTop (mkF m 123 #[.val (.ref o0), .val (.int p1), .val (.int p2), .val (.int ((own_at cs p1) &&& (255 : Int32))), .val (.int (2 : Int32)), .val (.int (((own_at cs p1) &&& (255 : Int32)) &&& (15 : Int32))), .val (.int (2048 : Int32)), .unset, .unset] [(.int ((own_at cs (p1 + (1 : Int32))) &&& (255 : Int32)))])) _
            refine XS.istore X0.here hx rfl (hb hby d5_123) rfl (l' := #[.val (.ref o0), .val (.int p1), .val (.int p2), .val (.int ((own_at cs p1) &&& (255 : Int32))), .val (.int (2 : Int32)), .val (.int (((own_at cs p1) &&& (255 : Int32)) &&& (15 : Int32))), .val (.int (2048 : Int32)), .val (.int ((own_at cs (p1 + (1 : Int32))) &&& (255 : Int32))), .unset]) rfl ?_
            show Steps p.tables e below (s₁.setTop (mkF m 125 #[.val (.ref o0), .val (.int p1), .val (.int p2), .val (.int ((own_at cs p1) &&& (255 : Int32))), .val (.int (2 : Int32)), .val (.int (((own_at cs p1) &&& (255 : Int32)) &&& (15 : Int32))), .val (.int (2048 : Int32)), .val (.int ((own_at cs (p1 + (1 : Int32))) &&& (255 : Int32))), .unset] [])) _
            refine XS.iload X0.here hx rfl (hb hby d5_125) rfl ?_
            show Steps p.tables e below (s₁.setTop (mkF m 127 #[.val (.ref o0), .val (.int p1), .val (.int p2), .val (.int ((own_at cs p1) &&& (255 : Int32))), .val (.int (2 : Int32)), .val (.int (((own_at cs p1) &&& (255 : Int32)) &&& (15 : Int32))), .val (.int (2048 : Int32)), .val (.int ((own_at cs (p1 + (1 : Int32))) &&& (255 : Int32))), .unset] [(.int ((own_at cs (p1 + (1 : Int32))) &&& (255 : Int32)))])) _
            refine XS.sipush X0.here hx rfl (hb hby d5_127) ?_
            show Steps p.tables e below (s₁.setTop (mkF m 130 #[.val (.ref o0), .val (.int p1), .val (.int p2), .val (.int ((own_at cs p1) &&& (255 : Int32))), .val (.int (2 : Int32)), .val (.int (((own_at cs p1) &&& (255 : Int32)) &&& (15 : Int32))), .val (.int (2048 : Int32)), .val (.int ((own_at cs (p1 + (1 : Int32))) &&& (255 : Int32))), .unset] [(.int (192 : Int32)), (.int ((own_at cs (p1 + (1 : Int32))) &&& (255 : Int32)))])) _
            refine XS.iand X0.here hx rfl (hb hby d5_130) rfl ?_
            show Steps p.tables e below (s₁.setTop (mkF m 131 #[.val (.ref o0), .val (.int p1), .val (.int p2), .val (.int ((own_at cs p1) &&& (255 : Int32))), .val (.int (2 : Int32)), .val (.int (((own_at cs p1) &&& (255 : Int32)) &&& (15 : Int32))), .val (.int (2048 : Int32)), .val (.int ((own_at cs (p1 + (1 : Int32))) &&& (255 : Int32))), .unset] [(.int (((own_at cs (p1 + (1 : Int32))) &&& (255 : Int32)) &&& (192 : Int32)))])) _
            refine XS.sipush X0.here hx rfl (hb hby d5_131) ?_
            exact k)
          by_cases hc134_25 : (((own_at cs (p1 + (1 : Int32))) &&& (255 : Int32)) &&& (192 : Int32)) = (128 : Int32)
          · obtain ⟨cl26, Ar26, q26, S26, N26', H26, G26⟩ := id V_a
            have hin26 : ¬ ((p1 + (2 : Int32)) < 0 ∨ cl26.slots.size ≤ ((p1 + (2 : Int32))).toNatClampNeg) := inb_of S26 (own_inS (n := (2 : Int32)) (k := (2 : Int32)) hi0 hi1 hi2 hc109_22 (by decide) (by decide) (by decide))
            have pre27 : ∀ t, Steps p.tables e below (s₁.setTop (mkF m 178 #[.val (.ref o0), .val (.int p1), .val (.int p2), .val (.int ((own_at cs p1) &&& (255 : Int32))), .val (.int (2 : Int32)), .val (.int (((((own_at cs p1) &&& (255 : Int32)) &&& (15 : Int32)) <<< ((6 : Int32) &&& 31)) ||| (((own_at cs (p1 + (1 : Int32))) &&& (255 : Int32)) &&& (63 : Int32)))), .val (.int (2048 : Int32)), .val (.int ((own_at cs (p1 + (1 : Int32))) &&& (255 : Int32))), .val (.int ((own_at cs (p1 + (2 : Int32))) &&& (255 : Int32)))] [(.int (128 : Int32)), (.int (((own_at cs (p1 + (2 : Int32))) &&& (255 : Int32)) &&& (192 : Int32)))])) t → Steps p.tables e below (s₁.setTop (entryFrame m #[(.ref o0), (.int p1), (.int p2)] 9)) t := fun t k => pre24 t (by
              show Steps p.tables e below (s₁.setTop (mkF m 134 #[.val (.ref o0), .val (.int p1), .val (.int p2), .val (.int ((own_at cs p1) &&& (255 : Int32))), .val (.int (2 : Int32)), .val (.int (((own_at cs p1) &&& (255 : Int32)) &&& (15 : Int32))), .val (.int (2048 : Int32)), .val (.int ((own_at cs (p1 + (1 : Int32))) &&& (255 : Int32))), .unset] [(.int (128 : Int32)), (.int (((own_at cs (p1 + (1 : Int32))) &&& (255 : Int32)) &&& (192 : Int32)))])) _
              refine XS.icmpYes X0.here hx rfl (pc0 := 134) (pc' := 139) rfl (hb hby d5_134) rfl (teq hc134_25).1 (by decide) (by decide) ?_
              show Steps p.tables e below (s₁.setTop (mkF m 139 #[.val (.ref o0), .val (.int p1), .val (.int p2), .val (.int ((own_at cs p1) &&& (255 : Int32))), .val (.int (2 : Int32)), .val (.int (((own_at cs p1) &&& (255 : Int32)) &&& (15 : Int32))), .val (.int (2048 : Int32)), .val (.int ((own_at cs (p1 + (1 : Int32))) &&& (255 : Int32))), .unset] [])) _
              refine XS.iload X0.here hx rfl (hb hby d5_139) rfl ?_
              show Steps p.tables e below (s₁.setTop (mkF m 141 #[.val (.ref o0), .val (.int p1), .val (.int p2), .val (.int ((own_at cs p1) &&& (255 : Int32))), .val (.int (2 : Int32)), .val (.int (((own_at cs p1) &&& (255 : Int32)) &&& (15 : Int32))), .val (.int (2048 : Int32)), .val (.int ((own_at cs (p1 + (1 : Int32))) &&& (255 : Int32))), .unset] [(.int (((own_at cs p1) &&& (255 : Int32)) &&& (15 : Int32)))])) _
              refine XS.bipush X0.here hx rfl (hb hby d5_141) ?_
              show Steps p.tables e below (s₁.setTop (mkF m 143 #[.val (.ref o0), .val (.int p1), .val (.int p2), .val (.int ((own_at cs p1) &&& (255 : Int32))), .val (.int (2 : Int32)), .val (.int (((own_at cs p1) &&& (255 : Int32)) &&& (15 : Int32))), .val (.int (2048 : Int32)), .val (.int ((own_at cs (p1 + (1 : Int32))) &&& (255 : Int32))), .unset] [(.int (6 : Int32)), (.int (((own_at cs p1) &&& (255 : Int32)) &&& (15 : Int32)))])) _
              refine XS.ishl X0.here hx rfl (hb hby d5_143) rfl ?_
              show Steps p.tables e below (s₁.setTop (mkF m 144 #[.val (.ref o0), .val (.int p1), .val (.int p2), .val (.int ((own_at cs p1) &&& (255 : Int32))), .val (.int (2 : Int32)), .val (.int (((own_at cs p1) &&& (255 : Int32)) &&& (15 : Int32))), .val (.int (2048 : Int32)), .val (.int ((own_at cs (p1 + (1 : Int32))) &&& (255 : Int32))), .unset] [(.int ((((own_at cs p1) &&& (255 : Int32)) &&& (15 : Int32)) <<< ((6 : Int32) &&& 31)))])) _
              refine XS.iload X0.here hx rfl (hb hby d5_144) rfl ?_
              show Steps p.tables e below (s₁.setTop (mkF m 146 #[.val (.ref o0), .val (.int p1), .val (.int p2), .val (.int ((own_at cs p1) &&& (255 : Int32))), .val (.int (2 : Int32)), .val (.int (((own_at cs p1) &&& (255 : Int32)) &&& (15 : Int32))), .val (.int (2048 : Int32)), .val (.int ((own_at cs (p1 + (1 : Int32))) &&& (255 : Int32))), .unset] [(.int ((own_at cs (p1 + (1 : Int32))) &&& (255 : Int32))), (.int ((((own_at cs p1) &&& (255 : Int32)) &&& (15 : Int32)) <<< ((6 : Int32) &&& 31)))])) _
              refine XS.bipush X0.here hx rfl (hb hby d5_146) ?_
              show Steps p.tables e below (s₁.setTop (mkF m 148 #[.val (.ref o0), .val (.int p1), .val (.int p2), .val (.int ((own_at cs p1) &&& (255 : Int32))), .val (.int (2 : Int32)), .val (.int (((own_at cs p1) &&& (255 : Int32)) &&& (15 : Int32))), .val (.int (2048 : Int32)), .val (.int ((own_at cs (p1 + (1 : Int32))) &&& (255 : Int32))), .unset] [(.int (63 : Int32)), (.int ((own_at cs (p1 + (1 : Int32))) &&& (255 : Int32))), (.int ((((own_at cs p1) &&& (255 : Int32)) &&& (15 : Int32)) <<< ((6 : Int32) &&& 31)))])) _
              refine XS.iand X0.here hx rfl (hb hby d5_148) rfl ?_
              show Steps p.tables e below (s₁.setTop (mkF m 149 #[.val (.ref o0), .val (.int p1), .val (.int p2), .val (.int ((own_at cs p1) &&& (255 : Int32))), .val (.int (2 : Int32)), .val (.int (((own_at cs p1) &&& (255 : Int32)) &&& (15 : Int32))), .val (.int (2048 : Int32)), .val (.int ((own_at cs (p1 + (1 : Int32))) &&& (255 : Int32))), .unset] [(.int (((own_at cs (p1 + (1 : Int32))) &&& (255 : Int32)) &&& (63 : Int32))), (.int ((((own_at cs p1) &&& (255 : Int32)) &&& (15 : Int32)) <<< ((6 : Int32) &&& 31)))])) _
              refine XS.ior X0.here hx rfl (hb hby d5_149) rfl ?_
              show Steps p.tables e below (s₁.setTop (mkF m 150 #[.val (.ref o0), .val (.int p1), .val (.int p2), .val (.int ((own_at cs p1) &&& (255 : Int32))), .val (.int (2 : Int32)), .val (.int (((own_at cs p1) &&& (255 : Int32)) &&& (15 : Int32))), .val (.int (2048 : Int32)), .val (.int ((own_at cs (p1 + (1 : Int32))) &&& (255 : Int32))), .unset] [(.int (((((own_at cs p1) &&& (255 : Int32)) &&& (15 : Int32)) <<< ((6 : Int32) &&& 31)) ||| (((own_at cs (p1 + (1 : Int32))) &&& (255 : Int32)) &&& (63 : Int32))))])) _
              refine XS.istore X0.here hx rfl (hb hby d5_150) rfl (l' := #[.val (.ref o0), .val (.int p1), .val (.int p2), .val (.int ((own_at cs p1) &&& (255 : Int32))), .val (.int (2 : Int32)), .val (.int (((((own_at cs p1) &&& (255 : Int32)) &&& (15 : Int32)) <<< ((6 : Int32) &&& 31)) ||| (((own_at cs (p1 + (1 : Int32))) &&& (255 : Int32)) &&& (63 : Int32)))), .val (.int (2048 : Int32)), .val (.int ((own_at cs (p1 + (1 : Int32))) &&& (255 : Int32))), .unset]) rfl ?_
              show Steps p.tables e below (s₁.setTop (mkF m 152 #[.val (.ref o0), .val (.int p1), .val (.int p2), .val (.int ((own_at cs p1) &&& (255 : Int32))), .val (.int (2 : Int32)), .val (.int (((((own_at cs p1) &&& (255 : Int32)) &&& (15 : Int32)) <<< ((6 : Int32) &&& 31)) ||| (((own_at cs (p1 + (1 : Int32))) &&& (255 : Int32)) &&& (63 : Int32)))), .val (.int (2048 : Int32)), .val (.int ((own_at cs (p1 + (1 : Int32))) &&& (255 : Int32))), .unset] [])) _
              refine XS.iload X0.here hx rfl (hb hby d5_152) rfl ?_
              show Steps p.tables e below (s₁.setTop (mkF m 154 #[.val (.ref o0), .val (.int p1), .val (.int p2), .val (.int ((own_at cs p1) &&& (255 : Int32))), .val (.int (2 : Int32)), .val (.int (((((own_at cs p1) &&& (255 : Int32)) &&& (15 : Int32)) <<< ((6 : Int32) &&& 31)) ||| (((own_at cs (p1 + (1 : Int32))) &&& (255 : Int32)) &&& (63 : Int32)))), .val (.int (2048 : Int32)), .val (.int ((own_at cs (p1 + (1 : Int32))) &&& (255 : Int32))), .unset] [(.int (2 : Int32))])) _
              refine XS.iconst X0.here hx rfl (hb hby d5_154) ?_
              show Steps p.tables e below (s₁.setTop (mkF m 155 #[.val (.ref o0), .val (.int p1), .val (.int p2), .val (.int ((own_at cs p1) &&& (255 : Int32))), .val (.int (2 : Int32)), .val (.int (((((own_at cs p1) &&& (255 : Int32)) &&& (15 : Int32)) <<< ((6 : Int32) &&& 31)) ||| (((own_at cs (p1 + (1 : Int32))) &&& (255 : Int32)) &&& (63 : Int32)))), .val (.int (2048 : Int32)), .val (.int ((own_at cs (p1 + (1 : Int32))) &&& (255 : Int32))), .unset] [(.int (2 : Int32)), (.int (2 : Int32))])) _
              refine XS.icmpNo X0.here hx rfl (hb hby d5_155) rfl (flt ((by decide) : ¬ ((2 : Int32) < (2 : Int32)))).1 ?_
              show Steps p.tables e below (s₁.setTop (mkF m 158 #[.val (.ref o0), .val (.int p1), .val (.int p2), .val (.int ((own_at cs p1) &&& (255 : Int32))), .val (.int (2 : Int32)), .val (.int (((((own_at cs p1) &&& (255 : Int32)) &&& (15 : Int32)) <<< ((6 : Int32) &&& 31)) ||| (((own_at cs (p1 + (1 : Int32))) &&& (255 : Int32)) &&& (63 : Int32)))), .val (.int (2048 : Int32)), .val (.int ((own_at cs (p1 + (1 : Int32))) &&& (255 : Int32))), .unset] [])) _
              refine XS.aloadN X0.here hx rfl (hb hby d5_158) rfl rfl ?_
              show Steps p.tables e below (s₁.setTop (mkF m 159 #[.val (.ref o0), .val (.int p1), .val (.int p2), .val (.int ((own_at cs p1) &&& (255 : Int32))), .val (.int (2 : Int32)), .val (.int (((((own_at cs p1) &&& (255 : Int32)) &&& (15 : Int32)) <<< ((6 : Int32) &&& 31)) ||| (((own_at cs (p1 + (1 : Int32))) &&& (255 : Int32)) &&& (63 : Int32)))), .val (.int (2048 : Int32)), .val (.int ((own_at cs (p1 + (1 : Int32))) &&& (255 : Int32))), .unset] [(.ref o0)])) _
              refine XS.iloadN X0.here hx rfl (hb hby d5_159) rfl ?_
              show Steps p.tables e below (s₁.setTop (mkF m 160 #[.val (.ref o0), .val (.int p1), .val (.int p2), .val (.int ((own_at cs p1) &&& (255 : Int32))), .val (.int (2 : Int32)), .val (.int (((((own_at cs p1) &&& (255 : Int32)) &&& (15 : Int32)) <<< ((6 : Int32) &&& 31)) ||| (((own_at cs (p1 + (1 : Int32))) &&& (255 : Int32)) &&& (63 : Int32)))), .val (.int (2048 : Int32)), .val (.int ((own_at cs (p1 + (1 : Int32))) &&& (255 : Int32))), .unset] [(.int p1), (.ref o0)])) _
              refine XS.iconst X0.here hx rfl (hb hby d5_160) ?_
              show Steps p.tables e below (s₁.setTop (mkF m 161 #[.val (.ref o0), .val (.int p1), .val (.int p2), .val (.int ((own_at cs p1) &&& (255 : Int32))), .val (.int (2 : Int32)), .val (.int (((((own_at cs p1) &&& (255 : Int32)) &&& (15 : Int32)) <<< ((6 : Int32) &&& 31)) ||| (((own_at cs (p1 + (1 : Int32))) &&& (255 : Int32)) &&& (63 : Int32)))), .val (.int (2048 : Int32)), .val (.int ((own_at cs (p1 + (1 : Int32))) &&& (255 : Int32))), .unset] [(.int (2 : Int32)), (.int p1), (.ref o0)])) _
              refine XS.iadd X0.here hx rfl (hb hby d5_161) rfl ?_
              show Steps p.tables e below (s₁.setTop (mkF m 162 #[.val (.ref o0), .val (.int p1), .val (.int p2), .val (.int ((own_at cs p1) &&& (255 : Int32))), .val (.int (2 : Int32)), .val (.int (((((own_at cs p1) &&& (255 : Int32)) &&& (15 : Int32)) <<< ((6 : Int32) &&& 31)) ||| (((own_at cs (p1 + (1 : Int32))) &&& (255 : Int32)) &&& (63 : Int32)))), .val (.int (2048 : Int32)), .val (.int ((own_at cs (p1 + (1 : Int32))) &&& (255 : Int32))), .unset] [(.int (p1 + (2 : Int32))), (.ref o0)])) _
              refine X0.baloadBytes hx (j := (p1 + (2 : Int32))) (v := (.int (own_at cs (p1 + (2 : Int32))))) (by rw [e0]; exact Ar26.1) (State.isArrayOf_alike hZ.alike Ar26.2.1) Ar26.2.2 hin26 (H26.at hin26 (own_getD cs _)) (g := (mkF m 162 #[.val (.ref o0), .val (.int p1), .val (.int p2), .val (.int ((own_at cs p1) &&& (255 : Int32))), .val (.int (2 : Int32)), .val (.int (((((own_at cs p1) &&& (255 : Int32)) &&& (15 : Int32)) <<< ((6 : Int32) &&& 31)) ||| (((own_at cs (p1 + (1 : Int32))) &&& (255 : Int32)) &&& (63 : Int32)))), .val (.int (2048 : Int32)), .val (.int ((own_at cs (p1 + (1 : Int32))) &&& (255 : Int32))), .unset] [(.int (p1 + (2 : Int32))), (.ref o0)])) rfl rfl (hb hby d5_162) _ ?_
              show Steps p.tables e below (s₁.setTop (mkF m 163 #[.val (.ref o0), .val (.int p1), .val (.int p2), .val (.int ((own_at cs p1) &&& (255 : Int32))), .val (.int (2 : Int32)), .val (.int (((((own_at cs p1) &&& (255 : Int32)) &&& (15 : Int32)) <<< ((6 : Int32) &&& 31)) ||| (((own_at cs (p1 + (1 : Int32))) &&& (255 : Int32)) &&& (63 : Int32)))), .val (.int (2048 : Int32)), .val (.int ((own_at cs (p1 + (1 : Int32))) &&& (255 : Int32))), .unset] [(.int (own_at cs (p1 + (2 : Int32))))])) _
              refine XS.sipush X0.here hx rfl (hb hby d5_163) ?_
              show Steps p.tables e below (s₁.setTop (mkF m 166 #[.val (.ref o0), .val (.int p1), .val (.int p2), .val (.int ((own_at cs p1) &&& (255 : Int32))), .val (.int (2 : Int32)), .val (.int (((((own_at cs p1) &&& (255 : Int32)) &&& (15 : Int32)) <<< ((6 : Int32) &&& 31)) ||| (((own_at cs (p1 + (1 : Int32))) &&& (255 : Int32)) &&& (63 : Int32)))), .val (.int (2048 : Int32)), .val (.int ((own_at cs (p1 + (1 : Int32))) &&& (255 : Int32))), .unset] [(.int (255 : Int32)), (.int (own_at cs (p1 + (2 : Int32))))])) _
              refine XS.iand X0.here hx rfl (hb hby d5_166) rfl ?_
              show Steps p.tables e below (s₁.setTop (mkF m 167 #[.val (.ref o0), .val (.int p1), .val (.int p2), .val (.int ((own_at cs p1) &&& (255 : Int32))), .val (.int (2 : Int32)), .val (.int (((((own_at cs p1) &&& (255 : Int32)) &&& (15 : Int32)) <<< ((6 : Int32) &&& 31)) ||| (((own_at cs (p1 + (1 : Int32))) &&& (255 : Int32)) &&& (63 : Int32)))), .val (.int (2048 : Int32)), .val (.int ((own_at cs (p1 + (1 : Int32))) &&& (255 : Int32))), .unset] [(.int ((own_at cs (p1 + (2 : Int32))) &&& (255 : Int32)))])) _
              refine XS.istore X0.here hx rfl (hb hby d5_167) rfl (l' := #[.val (.ref o0), .val (.int p1), .val (.int p2), .val (.int ((own_at cs p1) &&& (255 : Int32))), .val (.int (2 : Int32)), .val (.int (((((own_at cs p1) &&& (255 : Int32)) &&& (15 : Int32)) <<< ((6 : Int32) &&& 31)) ||| (((own_at cs (p1 + (1 : Int32))) &&& (255 : Int32)) &&& (63 : Int32)))), .val (.int (2048 : Int32)), .val (.int ((own_at cs (p1 + (1 : Int32))) &&& (255 : Int32))), .val (.int ((own_at cs (p1 + (2 : Int32))) &&& (255 : Int32)))]) rfl ?_
              show Steps p.tables e below (s₁.setTop (mkF m 169 #[.val (.ref o0), .val (.int p1), .val (.int p2), .val (.int ((own_at cs p1) &&& (255 : Int32))), .val (.int (2 : Int32)), .val (.int (((((own_at cs p1) &&& (255 : Int32)) &&& (15 : Int32)) <<< ((6 : Int32) &&& 31)) ||| (((own_at cs (p1 + (1 : Int32))) &&& (255 : Int32)) &&& (63 : Int32)))), .val (.int (2048 : Int32)), .val (.int ((own_at cs (p1 + (1 : Int32))) &&& (255 : Int32))), .val (.int ((own_at cs (p1 + (2 : Int32))) &&& (255 : Int32)))] [])) _
              refine XS.iload X0.here hx rfl (hb hby d5_169) rfl ?_
              show Steps p.tables e below (s₁.setTop (mkF m 171 #[.val (.ref o0), .val (.int p1), .val (.int p2), .val (.int ((own_at cs p1) &&& (255 : Int32))), .val (.int (2 : Int32)), .val (.int (((((own_at cs p1) &&& (255 : Int32)) &&& (15 : Int32)) <<< ((6 : Int32) &&& 31)) ||| (((own_at cs (p1 + (1 : Int32))) &&& (255 : Int32)) &&& (63 : Int32)))), .val (.int (2048 : Int32)), .val (.int ((own_at cs (p1 + (1 : Int32))) &&& (255 : Int32))), .val (.int ((own_at cs (p1 + (2 : Int32))) &&& (255 : Int32)))] [(.int ((own_at cs (p1 + (2 : Int32))) &&& (255 : Int32)))])) _
              refine XS.sipush X0.here hx rfl (hb hby d5_171) ?_
              show Steps p.tables e below (s₁.setTop (mkF m 174 #[.val (.ref o0), .val (.int p1), .val (.int p2), .val (.int ((own_at cs p1) &&& (255 : Int32))), .val (.int (2 : Int32)), .val (.int (((((own_at cs p1) &&& (255 : Int32)) &&& (15 : Int32)) <<< ((6 : Int32) &&& 31)) ||| (((own_at cs (p1 + (1 : Int32))) &&& (255 : Int32)) &&& (63 : Int32)))), .val (.int (2048 : Int32)), .val (.int ((own_at cs (p1 + (1 : Int32))) &&& (255 : Int32))), .val (.int ((own_at cs (p1 + (2 : Int32))) &&& (255 : Int32)))] [(.int (192 : Int32)), (.int ((own_at cs (p1 + (2 : Int32))) &&& (255 : Int32)))])) _
              refine XS.iand X0.here hx rfl (hb hby d5_174) rfl ?_
              show Steps p.tables e below (s₁.setTop (mkF m 175 #[.val (.ref o0), .val (.int p1), .val (.int p2), .val (.int ((own_at cs p1) &&& (255 : Int32))), .val (.int (2 : Int32)), .val (.int (((((own_at cs p1) &&& (255 : Int32)) &&& (15 : Int32)) <<< ((6 : Int32) &&& 31)) ||| (((own_at cs (p1 + (1 : Int32))) &&& (255 : Int32)) &&& (63 : Int32)))), .val (.int (2048 : Int32)), .val (.int ((own_at cs (p1 + (1 : Int32))) &&& (255 : Int32))), .val (.int ((own_at cs (p1 + (2 : Int32))) &&& (255 : Int32)))] [(.int (((own_at cs (p1 + (2 : Int32))) &&& (255 : Int32)) &&& (192 : Int32)))])) _
              refine XS.sipush X0.here hx rfl (hb hby d5_175) ?_
              exact k)
            by_cases hc178_28 : (((own_at cs (p1 + (2 : Int32))) &&& (255 : Int32)) &&& (192 : Int32)) = (128 : Int32)
            · have pre29 : ∀ t, Steps p.tables e below (s₁.setTop (mkF m 244 #[.val (.ref o0), .val (.int p1), .val (.int p2), .val (.int ((own_at cs p1) &&& (255 : Int32))), .val (.int (2 : Int32)), .val (.int (((((((own_at cs p1) &&& (255 : Int32)) &&& (15 : Int32)) <<< ((6 : Int32) &&& 31)) ||| (((own_at cs (p1 + (1 : Int32))) &&& (255 : Int32)) &&& (63 : Int32))) <<< ((6 : Int32) &&& 31)) ||| (((own_at cs (p1 + (2 : Int32))) &&& (255 : Int32)) &&& (63 : Int32)))), .val (.int (2048 : Int32)), .val (.int ((own_at cs (p1 + (1 : Int32))) &&& (255 : Int32))), .val (.int ((own_at cs (p1 + (2 : Int32))) &&& (255 : Int32)))] [(.int (2048 : Int32)), (.int (((((((own_at cs p1) &&& (255 : Int32)) &&& (15 : Int32)) <<< ((6 : Int32) &&& 31)) ||| (((own_at cs (p1 + (1 : Int32))) &&& (255 : Int32)) &&& (63 : Int32))) <<< ((6 : Int32) &&& 31)) ||| (((own_at cs (p1 + (2 : Int32))) &&& (255 : Int32)) &&& (63 : Int32))))])) t → Steps p.tables e below (s₁.setTop (entryFrame m #[(.ref o0), (.int p1), (.int p2)] 9)) t := fun t k => pre27 t (by
                show Steps p.tables e below (s₁.setTop (mkF m 178 #[.val (.ref o0), .val (.int p1), .val (.int p2), .val (.int ((own_at cs p1) &&& (255 : Int32))), .val (.int (2 : Int32)), .val (.int (((((own_at cs p1) &&& (255 : Int32)) &&& (15 : Int32)) <<< ((6 : Int32) &&& 31)) ||| (((own_at cs (p1 + (1 : Int32))) &&& (255 : Int32)) &&& (63 : Int32)))), .val (.int (2048 : Int32)), .val (.int ((own_at cs (p1 + (1 : Int32))) &&& (255 : Int32))), .val (.int ((own_at cs (p1 + (2 : Int32))) &&& (255 : Int32)))] [(.int (128 : Int32)), (.int (((own_at cs (p1 + (2 : Int32))) &&& (255 : Int32)) &&& (192 : Int32)))])) _
                refine XS.icmpYes X0.here hx rfl (pc0 := 178) (pc' := 183) rfl (hb hby d5_178) rfl (teq hc178_28).1 (by decide) (by decide) ?_
                show Steps p.tables e below (s₁.setTop (mkF m 183 #[.val (.ref o0), .val (.int p1), .val (.int p2), .val (.int ((own_at cs p1) &&& (255 : Int32))), .val (.int (2 : Int32)), .val (.int (((((own_at cs p1) &&& (255 : Int32)) &&& (15 : Int32)) <<< ((6 : Int32) &&& 31)) ||| (((own_at cs (p1 + (1 : Int32))) &&& (255 : Int32)) &&& (63 : Int32)))), .val (.int (2048 : Int32)), .val (.int ((own_at cs (p1 + (1 : Int32))) &&& (255 : Int32))), .val (.int ((own_at cs (p1 + (2 : Int32))) &&& (255 : Int32)))] [])) _
                refine XS.iload X0.here hx rfl (hb hby d5_183) rfl ?_
                show Steps p.tables e below (s₁.setTop (mkF m 185 #[.val (.ref o0), .val (.int p1), .val (.int p2), .val (.int ((own_at cs p1) &&& (255 : Int32))), .val (.int (2 : Int32)), .val (.int (((((own_at cs p1) &&& (255 : Int32)) &&& (15 : Int32)) <<< ((6 : Int32) &&& 31)) ||| (((own_at cs (p1 + (1 : Int32))) &&& (255 : Int32)) &&& (63 : Int32)))), .val (.int (2048 : Int32)), .val (.int ((own_at cs (p1 + (1 : Int32))) &&& (255 : Int32))), .val (.int ((own_at cs (p1 + (2 : Int32))) &&& (255 : Int32)))] [(.int (((((own_at cs p1) &&& (255 : Int32)) &&& (15 : Int32)) <<< ((6 : Int32) &&& 31)) ||| (((own_at cs (p1 + (1 : Int32))) &&& (255 : Int32)) &&& (63 : Int32))))])) _
                refine XS.bipush X0.here hx rfl (hb hby d5_185) ?_
                show Steps p.tables e below (s₁.setTop (mkF m 187 #[.val (.ref o0), .val (.int p1), .val (.int p2), .val (.int ((own_at cs p1) &&& (255 : Int32))), .val (.int (2 : Int32)), .val (.int (((((own_at cs p1) &&& (255 : Int32)) &&& (15 : Int32)) <<< ((6 : Int32) &&& 31)) ||| (((own_at cs (p1 + (1 : Int32))) &&& (255 : Int32)) &&& (63 : Int32)))), .val (.int (2048 : Int32)), .val (.int ((own_at cs (p1 + (1 : Int32))) &&& (255 : Int32))), .val (.int ((own_at cs (p1 + (2 : Int32))) &&& (255 : Int32)))] [(.int (6 : Int32)), (.int (((((own_at cs p1) &&& (255 : Int32)) &&& (15 : Int32)) <<< ((6 : Int32) &&& 31)) ||| (((own_at cs (p1 + (1 : Int32))) &&& (255 : Int32)) &&& (63 : Int32))))])) _
                refine XS.ishl X0.here hx rfl (hb hby d5_187) rfl ?_
                show Steps p.tables e below (s₁.setTop (mkF m 188 #[.val (.ref o0), .val (.int p1), .val (.int p2), .val (.int ((own_at cs p1) &&& (255 : Int32))), .val (.int (2 : Int32)), .val (.int (((((own_at cs p1) &&& (255 : Int32)) &&& (15 : Int32)) <<< ((6 : Int32) &&& 31)) ||| (((own_at cs (p1 + (1 : Int32))) &&& (255 : Int32)) &&& (63 : Int32)))), .val (.int (2048 : Int32)), .val (.int ((own_at cs (p1 + (1 : Int32))) &&& (255 : Int32))), .val (.int ((own_at cs (p1 + (2 : Int32))) &&& (255 : Int32)))] [(.int ((((((own_at cs p1) &&& (255 : Int32)) &&& (15 : Int32)) <<< ((6 : Int32) &&& 31)) ||| (((own_at cs (p1 + (1 : Int32))) &&& (255 : Int32)) &&& (63 : Int32))) <<< ((6 : Int32) &&& 31)))])) _
                refine XS.iload X0.here hx rfl (hb hby d5_188) rfl ?_
                show Steps p.tables e below (s₁.setTop (mkF m 190 #[.val (.ref o0), .val (.int p1), .val (.int p2), .val (.int ((own_at cs p1) &&& (255 : Int32))), .val (.int (2 : Int32)), .val (.int (((((own_at cs p1) &&& (255 : Int32)) &&& (15 : Int32)) <<< ((6 : Int32) &&& 31)) ||| (((own_at cs (p1 + (1 : Int32))) &&& (255 : Int32)) &&& (63 : Int32)))), .val (.int (2048 : Int32)), .val (.int ((own_at cs (p1 + (1 : Int32))) &&& (255 : Int32))), .val (.int ((own_at cs (p1 + (2 : Int32))) &&& (255 : Int32)))] [(.int ((own_at cs (p1 + (2 : Int32))) &&& (255 : Int32))), (.int ((((((own_at cs p1) &&& (255 : Int32)) &&& (15 : Int32)) <<< ((6 : Int32) &&& 31)) ||| (((own_at cs (p1 + (1 : Int32))) &&& (255 : Int32)) &&& (63 : Int32))) <<< ((6 : Int32) &&& 31)))])) _
                refine XS.bipush X0.here hx rfl (hb hby d5_190) ?_
                show Steps p.tables e below (s₁.setTop (mkF m 192 #[.val (.ref o0), .val (.int p1), .val (.int p2), .val (.int ((own_at cs p1) &&& (255 : Int32))), .val (.int (2 : Int32)), .val (.int (((((own_at cs p1) &&& (255 : Int32)) &&& (15 : Int32)) <<< ((6 : Int32) &&& 31)) ||| (((own_at cs (p1 + (1 : Int32))) &&& (255 : Int32)) &&& (63 : Int32)))), .val (.int (2048 : Int32)), .val (.int ((own_at cs (p1 + (1 : Int32))) &&& (255 : Int32))), .val (.int ((own_at cs (p1 + (2 : Int32))) &&& (255 : Int32)))] [(.int (63 : Int32)), (.int ((own_at cs (p1 + (2 : Int32))) &&& (255 : Int32))), (.int ((((((own_at cs p1) &&& (255 : Int32)) &&& (15 : Int32)) <<< ((6 : Int32) &&& 31)) ||| (((own_at cs (p1 + (1 : Int32))) &&& (255 : Int32)) &&& (63 : Int32))) <<< ((6 : Int32) &&& 31)))])) _
                refine XS.iand X0.here hx rfl (hb hby d5_192) rfl ?_
                show Steps p.tables e below (s₁.setTop (mkF m 193 #[.val (.ref o0), .val (.int p1), .val (.int p2), .val (.int ((own_at cs p1) &&& (255 : Int32))), .val (.int (2 : Int32)), .val (.int (((((own_at cs p1) &&& (255 : Int32)) &&& (15 : Int32)) <<< ((6 : Int32) &&& 31)) ||| (((own_at cs (p1 + (1 : Int32))) &&& (255 : Int32)) &&& (63 : Int32)))), .val (.int (2048 : Int32)), .val (.int ((own_at cs (p1 + (1 : Int32))) &&& (255 : Int32))), .val (.int ((own_at cs (p1 + (2 : Int32))) &&& (255 : Int32)))] [(.int (((own_at cs (p1 + (2 : Int32))) &&& (255 : Int32)) &&& (63 : Int32))), (.int ((((((own_at cs p1) &&& (255 : Int32)) &&& (15 : Int32)) <<< ((6 : Int32) &&& 31)) ||| (((own_at cs (p1 + (1 : Int32))) &&& (255 : Int32)) &&& (63 : Int32))) <<< ((6 : Int32) &&& 31)))])) _
                refine XS.ior X0.here hx rfl (hb hby d5_193) rfl ?_
                show Steps p.tables e below (s₁.setTop (mkF m 194 #[.val (.ref o0), .val (.int p1), .val (.int p2), .val (.int ((own_at cs p1) &&& (255 : Int32))), .val (.int (2 : Int32)), .val (.int (((((own_at cs p1) &&& (255 : Int32)) &&& (15 : Int32)) <<< ((6 : Int32) &&& 31)) ||| (((own_at cs (p1 + (1 : Int32))) &&& (255 : Int32)) &&& (63 : Int32)))), .val (.int (2048 : Int32)), .val (.int ((own_at cs (p1 + (1 : Int32))) &&& (255 : Int32))), .val (.int ((own_at cs (p1 + (2 : Int32))) &&& (255 : Int32)))] [(.int (((((((own_at cs p1) &&& (255 : Int32)) &&& (15 : Int32)) <<< ((6 : Int32) &&& 31)) ||| (((own_at cs (p1 + (1 : Int32))) &&& (255 : Int32)) &&& (63 : Int32))) <<< ((6 : Int32) &&& 31)) ||| (((own_at cs (p1 + (2 : Int32))) &&& (255 : Int32)) &&& (63 : Int32))))])) _
                refine XS.istore X0.here hx rfl (hb hby d5_194) rfl (l' := #[.val (.ref o0), .val (.int p1), .val (.int p2), .val (.int ((own_at cs p1) &&& (255 : Int32))), .val (.int (2 : Int32)), .val (.int (((((((own_at cs p1) &&& (255 : Int32)) &&& (15 : Int32)) <<< ((6 : Int32) &&& 31)) ||| (((own_at cs (p1 + (1 : Int32))) &&& (255 : Int32)) &&& (63 : Int32))) <<< ((6 : Int32) &&& 31)) ||| (((own_at cs (p1 + (2 : Int32))) &&& (255 : Int32)) &&& (63 : Int32)))), .val (.int (2048 : Int32)), .val (.int ((own_at cs (p1 + (1 : Int32))) &&& (255 : Int32))), .val (.int ((own_at cs (p1 + (2 : Int32))) &&& (255 : Int32)))]) rfl ?_
                show Steps p.tables e below (s₁.setTop (mkF m 196 #[.val (.ref o0), .val (.int p1), .val (.int p2), .val (.int ((own_at cs p1) &&& (255 : Int32))), .val (.int (2 : Int32)), .val (.int (((((((own_at cs p1) &&& (255 : Int32)) &&& (15 : Int32)) <<< ((6 : Int32) &&& 31)) ||| (((own_at cs (p1 + (1 : Int32))) &&& (255 : Int32)) &&& (63 : Int32))) <<< ((6 : Int32) &&& 31)) ||| (((own_at cs (p1 + (2 : Int32))) &&& (255 : Int32)) &&& (63 : Int32)))), .val (.int (2048 : Int32)), .val (.int ((own_at cs (p1 + (1 : Int32))) &&& (255 : Int32))), .val (.int ((own_at cs (p1 + (2 : Int32))) &&& (255 : Int32)))] [])) _
                refine XS.iload X0.here hx rfl (hb hby d5_196) rfl ?_
                show Steps p.tables e below (s₁.setTop (mkF m 198 #[.val (.ref o0), .val (.int p1), .val (.int p2), .val (.int ((own_at cs p1) &&& (255 : Int32))), .val (.int (2 : Int32)), .val (.int (((((((own_at cs p1) &&& (255 : Int32)) &&& (15 : Int32)) <<< ((6 : Int32) &&& 31)) ||| (((own_at cs (p1 + (1 : Int32))) &&& (255 : Int32)) &&& (63 : Int32))) <<< ((6 : Int32) &&& 31)) ||| (((own_at cs (p1 + (2 : Int32))) &&& (255 : Int32)) &&& (63 : Int32)))), .val (.int (2048 : Int32)), .val (.int ((own_at cs (p1 + (1 : Int32))) &&& (255 : Int32))), .val (.int ((own_at cs (p1 + (2 : Int32))) &&& (255 : Int32)))] [(.int (2 : Int32))])) _
                refine XS.iconst X0.here hx rfl (hb hby d5_198) ?_
                show Steps p.tables e below (s₁.setTop (mkF m 199 #[.val (.ref o0), .val (.int p1), .val (.int p2), .val (.int ((own_at cs p1) &&& (255 : Int32))), .val (.int (2 : Int32)), .val (.int (((((((own_at cs p1) &&& (255 : Int32)) &&& (15 : Int32)) <<< ((6 : Int32) &&& 31)) ||| (((own_at cs (p1 + (1 : Int32))) &&& (255 : Int32)) &&& (63 : Int32))) <<< ((6 : Int32) &&& 31)) ||| (((own_at cs (p1 + (2 : Int32))) &&& (255 : Int32)) &&& (63 : Int32)))), .val (.int (2048 : Int32)), .val (.int ((own_at cs (p1 + (1 : Int32))) &&& (255 : Int32))), .val (.int ((own_at cs (p1 + (2 : Int32))) &&& (255 : Int32)))] [(.int (3 : Int32)), (.int (2 : Int32))])) _
                refine XS.icmpYes X0.here hx rfl (pc0 := 199) (pc' := 240) rfl (hb hby d5_199) rfl (tlt ((by decide) : (2 : Int32) < (3 : Int32))).1 (by decide) (by decide) ?_
                show Steps p.tables e below (s₁.setTop (mkF m 240 #[.val (.ref o0), .val (.int p1), .val (.int p2), .val (.int ((own_at cs p1) &&& (255 : Int32))), .val (.int (2 : Int32)), .val (.int (((((((own_at cs p1) &&& (255 : Int32)) &&& (15 : Int32)) <<< ((6 : Int32) &&& 31)) ||| (((own_at cs (p1 + (1 : Int32))) &&& (255 : Int32)) &&& (63 : Int32))) <<< ((6 : Int32) &&& 31)) ||| (((own_at cs (p1 + (2 : Int32))) &&& (255 : Int32)) &&& (63 : Int32)))), .val (.int (2048 : Int32)), .val (.int ((own_at cs (p1 + (1 : Int32))) &&& (255 : Int32))), .val (.int ((own_at cs (p1 + (2 : Int32))) &&& (255 : Int32)))] [])) _
                refine XS.iload X0.here hx rfl (hb hby d5_240) rfl ?_
                show Steps p.tables e below (s₁.setTop (mkF m 242 #[.val (.ref o0), .val (.int p1), .val (.int p2), .val (.int ((own_at cs p1) &&& (255 : Int32))), .val (.int (2 : Int32)), .val (.int (((((((own_at cs p1) &&& (255 : Int32)) &&& (15 : Int32)) <<< ((6 : Int32) &&& 31)) ||| (((own_at cs (p1 + (1 : Int32))) &&& (255 : Int32)) &&& (63 : Int32))) <<< ((6 : Int32) &&& 31)) ||| (((own_at cs (p1 + (2 : Int32))) &&& (255 : Int32)) &&& (63 : Int32)))), .val (.int (2048 : Int32)), .val (.int ((own_at cs (p1 + (1 : Int32))) &&& (255 : Int32))), .val (.int ((own_at cs (p1 + (2 : Int32))) &&& (255 : Int32)))] [(.int (((((((own_at cs p1) &&& (255 : Int32)) &&& (15 : Int32)) <<< ((6 : Int32) &&& 31)) ||| (((own_at cs (p1 + (1 : Int32))) &&& (255 : Int32)) &&& (63 : Int32))) <<< ((6 : Int32) &&& 31)) ||| (((own_at cs (p1 + (2 : Int32))) &&& (255 : Int32)) &&& (63 : Int32))))])) _
                refine XS.iload X0.here hx rfl (hb hby d5_242) rfl ?_
                exact k)
              by_cases hc244_30 : (((((((own_at cs p1) &&& (255 : Int32)) &&& (15 : Int32)) <<< ((6 : Int32) &&& 31)) ||| (((own_at cs (p1 + (1 : Int32))) &&& (255 : Int32)) &&& (63 : Int32))) <<< ((6 : Int32) &&& 31)) ||| (((own_at cs (p1 + (2 : Int32))) &&& (255 : Int32)) &&& (63 : Int32))) < (2048 : Int32)
              · obtain ⟨fs, hr, hrun, hended, hW, hsame⟩ := X0.leave (v := some (.int (-1 : Int32))) (fun h => by rw [Bd.returns] at h; cases h)
                refine ⟨_, _, pre29 _ ?_, hrun, hended, _, _, rfl, ?_, ⟨_, rfl⟩, hW, hsame.mono (by decide) (by decide)⟩
                · show Steps p.tables e below (s₁.setTop (mkF m 244 #[.val (.ref o0), .val (.int p1), .val (.int p2), .val (.int ((own_at cs p1) &&& (255 : Int32))), .val (.int (2 : Int32)), .val (.int (((((((own_at cs p1) &&& (255 : Int32)) &&& (15 : Int32)) <<< ((6 : Int32) &&& 31)) ||| (((own_at cs (p1 + (1 : Int32))) &&& (255 : Int32)) &&& (63 : Int32))) <<< ((6 : Int32) &&& 31)) ||| (((own_at cs (p1 + (2 : Int32))) &&& (255 : Int32)) &&& (63 : Int32)))), .val (.int (2048 : Int32)), .val (.int ((own_at cs (p1 + (1 : Int32))) &&& (255 : Int32))), .val (.int ((own_at cs (p1 + (2 : Int32))) &&& (255 : Int32)))] [(.int (2048 : Int32)), (.int (((((((own_at cs p1) &&& (255 : Int32)) &&& (15 : Int32)) <<< ((6 : Int32) &&& 31)) ||| (((own_at cs (p1 + (1 : Int32))) &&& (255 : Int32)) &&& (63 : Int32))) <<< ((6 : Int32) &&& 31)) ||| (((own_at cs (p1 + (2 : Int32))) &&& (255 : Int32)) &&& (63 : Int32))))])) _
                  refine XS.icmpYes X0.here hx rfl (pc0 := 244) (pc' := 268) rfl (hb hby d5_244) rfl (tlt hc244_30).1 (by decide) (by decide) ?_
                  show Steps p.tables e below (s₁.setTop (mkF m 268 #[.val (.ref o0), .val (.int p1), .val (.int p2), .val (.int ((own_at cs p1) &&& (255 : Int32))), .val (.int (2 : Int32)), .val (.int (((((((own_at cs p1) &&& (255 : Int32)) &&& (15 : Int32)) <<< ((6 : Int32) &&& 31)) ||| (((own_at cs (p1 + (1 : Int32))) &&& (255 : Int32)) &&& (63 : Int32))) <<< ((6 : Int32) &&& 31)) ||| (((own_at cs (p1 + (2 : Int32))) &&& (255 : Int32)) &&& (63 : Int32)))), .val (.int (2048 : Int32)), .val (.int ((own_at cs (p1 + (1 : Int32))) &&& (255 : Int32))), .val (.int ((own_at cs (p1 + (2 : Int32))) &&& (255 : Int32)))] [])) _
                  refine XS.iconst X0.here hx rfl (hb hby d5_268) ?_
                  show Steps p.tables e below (s₁.setTop (mkF m 269 #[.val (.ref o0), .val (.int p1), .val (.int p2), .val (.int ((own_at cs p1) &&& (255 : Int32))), .val (.int (2 : Int32)), .val (.int (((((((own_at cs p1) &&& (255 : Int32)) &&& (15 : Int32)) <<< ((6 : Int32) &&& 31)) ||| (((own_at cs (p1 + (1 : Int32))) &&& (255 : Int32)) &&& (63 : Int32))) <<< ((6 : Int32) &&& 31)) ||| (((own_at cs (p1 + (2 : Int32))) &&& (255 : Int32)) &&& (63 : Int32)))), .val (.int (2048 : Int32)), .val (.int ((own_at cs (p1 + (1 : Int32))) &&& (255 : Int32))), .val (.int ((own_at cs (p1 + (2 : Int32))) &&& (255 : Int32)))] [(.int (-1 : Int32))])) _
                  exact retI X0 hx Bd.returns (hb hby d5_269) hr
                · show rm5Q Z cs p1 p2 h0 n0 _ s₁.heap _
                  rw [e0]
                  exact ⟨(by rw [show own_f5 cs p1 p2 = (-1 : Int32) from by simp only [own_f5, if_neg hc12_3, if_neg hc27_5, if_pos hc55_20, if_pos hc109_22, if_pos hc134_25, if_pos hc178_28, if_pos hc244_30]]), N0, rfl⟩
              · have pre31 : ∀ t, Steps p.tables e below (s₁.setTop (mkF m 251 #[.val (.ref o0), .val (.int p1), .val (.int p2), .val (.int ((own_at cs p1) &&& (255 : Int32))), .val (.int (2 : Int32)), .val (.int (((((((own_at cs p1) &&& (255 : Int32)) &&& (15 : Int32)) <<< ((6 : Int32) &&& 31)) ||| (((own_at cs (p1 + (1 : Int32))) &&& (255 : Int32)) &&& (63 : Int32))) <<< ((6 : Int32) &&& 31)) ||| (((own_at cs (p1 + (2 : Int32))) &&& (255 : Int32)) &&& (63 : Int32)))), .val (.int (2048 : Int32)), .val (.int ((own_at cs (p1 + (1 : Int32))) &&& (255 : Int32))), .val (.int ((own_at cs (p1 + (2 : Int32))) &&& (255 : Int32)))] [(.int (1114111 : Int32)), (.int (((((((own_at cs p1) &&& (255 : Int32)) &&& (15 : Int32)) <<< ((6 : Int32) &&& 31)) ||| (((own_at cs (p1 + (1 : Int32))) &&& (255 : Int32)) &&& (63 : Int32))) <<< ((6 : Int32) &&& 31)) ||| (((own_at cs (p1 + (2 : Int32))) &&& (255 : Int32)) &&& (63 : Int32))))])) t → Steps p.tables e below (s₁.setTop (entryFrame m #[(.ref o0), (.int p1), (.int p2)] 9)) t := fun t k => pre29 t (by
                  show Steps p.tables e below (s₁.setTop (mkF m 244 #[.val (.ref o0), .val (.int p1), .val (.int p2), .val (.int ((own_at cs p1) &&& (255 : Int32))), .val (.int (2 : Int32)), .val (.int (((((((own_at cs p1) &&& (255 : Int32)) &&& (15 : Int32)) <<< ((6 : Int32) &&& 31)) ||| (((own_at cs (p1 + (1 : Int32))) &&& (255 : Int32)) &&& (63 : Int32))) <<< ((6 : Int32) &&& 31)) ||| (((own_at cs (p1 + (2 : Int32))) &&& (255 : Int32)) &&& (63 : Int32)))), .val (.int (2048 : Int32)), .val (.int ((own_at cs (p1 + (1 : Int32))) &&& (255 : Int32))), .val (.int ((own_at cs (p1 + (2 : Int32))) &&& (255 : Int32)))] [(.int (2048 : Int32)), (.int (((((((own_at cs p1) &&& (255 : Int32)) &&& (15 : Int32)) <<< ((6 : Int32) &&& 31)) ||| (((own_at cs (p1 + (1 : Int32))) &&& (255 : Int32)) &&& (63 : Int32))) <<< ((6 : Int32) &&& 31)) ||| (((own_at cs (p1 + (2 : Int32))) &&& (255 : Int32)) &&& (63 : Int32))))])) _
                  refine XS.icmpNo X0.here hx rfl (hb hby d5_244) rfl (flt hc244_30).1 ?_
                  show Steps p.tables e below (s₁.setTop (mkF m 247 #[.val (.ref o0), .val (.int p1), .val (.int p2), .val (.int ((own_at cs p1) &&& (255 : Int32))), .val (.int (2 : Int32)), .val (.int (((((((own_at cs p1) &&& (255 : Int32)) &&& (15 : Int32)) <<< ((6 : Int32) &&& 31)) ||| (((own_at cs (p1 + (1 : Int32))) &&& (255 : Int32)) &&& (63 : Int32))) <<< ((6 : Int32) &&& 31)) ||| (((own_at cs (p1 + (2 : Int32))) &&& (255 : Int32)) &&& (63 : Int32)))), .val (.int (2048 : Int32)), .val (.int ((own_at cs (p1 + (1 : Int32))) &&& (255 : Int32))), .val (.int ((own_at cs (p1 + (2 : Int32))) &&& (255 : Int32)))] [])) _
                  refine XS.iload X0.here hx rfl (hb hby d5_247) rfl ?_
                  show Steps p.tables e below (s₁.setTop (mkF m 249 #[.val (.ref o0), .val (.int p1), .val (.int p2), .val (.int ((own_at cs p1) &&& (255 : Int32))), .val (.int (2 : Int32)), .val (.int (((((((own_at cs p1) &&& (255 : Int32)) &&& (15 : Int32)) <<< ((6 : Int32) &&& 31)) ||| (((own_at cs (p1 + (1 : Int32))) &&& (255 : Int32)) &&& (63 : Int32))) <<< ((6 : Int32) &&& 31)) ||| (((own_at cs (p1 + (2 : Int32))) &&& (255 : Int32)) &&& (63 : Int32)))), .val (.int (2048 : Int32)), .val (.int ((own_at cs (p1 + (1 : Int32))) &&& (255 : Int32))), .val (.int ((own_at cs (p1 + (2 : Int32))) &&& (255 : Int32)))] [(.int (((((((own_at cs p1) &&& (255 : Int32)) &&& (15 : Int32)) <<< ((6 : Int32) &&& 31)) ||| (((own_at cs (p1 + (1 : Int32))) &&& (255 : Int32)) &&& (63 : Int32))) <<< ((6 : Int32) &&& 31)) ||| (((own_at cs (p1 + (2 : Int32))) &&& (255 : Int32)) &&& (63 : Int32))))])) _
                  refine X0.ldcInt hx hown (mvT hZ (hw _ (List.mem_of_getElem? (i := 20) rfl))) (g := (mkF m 249 #[.val (.ref o0), .val (.int p1), .val (.int p2), .val (.int ((own_at cs p1) &&& (255 : Int32))), .val (.int (2 : Int32)), .val (.int (((((((own_at cs p1) &&& (255 : Int32)) &&& (15 : Int32)) <<< ((6 : Int32) &&& 31)) ||| (((own_at cs (p1 + (1 : Int32))) &&& (255 : Int32)) &&& (63 : Int32))) <<< ((6 : Int32) &&& 31)) ||| (((own_at cs (p1 + (2 : Int32))) &&& (255 : Int32)) &&& (63 : Int32)))), .val (.int (2048 : Int32)), .val (.int ((own_at cs (p1 + (1 : Int32))) &&& (255 : Int32))), .val (.int ((own_at cs (p1 + (2 : Int32))) &&& (255 : Int32)))] [(.int (((((((own_at cs p1) &&& (255 : Int32)) &&& (15 : Int32)) <<< ((6 : Int32) &&& 31)) ||| (((own_at cs (p1 + (1 : Int32))) &&& (255 : Int32)) &&& (63 : Int32))) <<< ((6 : Int32) &&& 31)) ||| (((own_at cs (p1 + (2 : Int32))) &&& (255 : Int32)) &&& (63 : Int32))))])) rfl (hb hby d5_249) _ ?_
                  exact k)
                by_cases hc251_32 : (1114111 : Int32) < (((((((own_at cs p1) &&& (255 : Int32)) &&& (15 : Int32)) <<< ((6 : Int32) &&& 31)) ||| (((own_at cs (p1 + (1 : Int32))) &&& (255 : Int32)) &&& (63 : Int32))) <<< ((6 : Int32) &&& 31)) ||| (((own_at cs (p1 + (2 : Int32))) &&& (255 : Int32)) &&& (63 : Int32)))
                · obtain ⟨fs, hr, hrun, hended, hW, hsame⟩ := X0.leave (v := some (.int (-1 : Int32))) (fun h => by rw [Bd.returns] at h; cases h)
                  refine ⟨_, _, pre31 _ ?_, hrun, hended, _, _, rfl, ?_, ⟨_, rfl⟩, hW, hsame.mono (by decide) (by decide)⟩
                  · show Steps p.tables e below (s₁.setTop (mkF m 251 #[.val (.ref o0), .val (.int p1), .val (.int p2), .val (.int ((own_at cs p1) &&& (255 : Int32))), .val (.int (2 : Int32)), .val (.int (((((((own_at cs p1) &&& (255 : Int32)) &&& (15 : Int32)) <<< ((6 : Int32) &&& 31)) ||| (((own_at cs (p1 + (1 : Int32))) &&& (255 : Int32)) &&& (63 : Int32))) <<< ((6 : Int32) &&& 31)) ||| (((own_at cs (p1 + (2 : Int32))) &&& (255 : Int32)) &&& (63 : Int32)))), .val (.int (2048 : Int32)), .val (.int ((own_at cs (p1 + (1 : Int32))) &&& (255 : Int32))), .val (.int ((own_at cs (p1 + (2 : Int32))) &&& (255 : Int32)))] [(.int (1114111 : Int32)), (.int (((((((own_at cs p1) &&& (255 : Int32)) &&& (15 : Int32)) <<< ((6 : Int32) &&& 31)) ||| (((own_at cs (p1 + (1 : Int32))) &&& (255 : Int32)) &&& (63 : Int32))) <<< ((6 : Int32) &&& 31)) ||| (((own_at cs (p1 + (2 : Int32))) &&& (255 : Int32)) &&& (63 : Int32))))])) _
                    refine XS.icmpYes X0.here hx rfl (pc0 := 251) (pc' := 268) rfl (hb hby d5_251) rfl (tlt hc251_32).2.2.1 (by decide) (by decide) ?_
                    show Steps p.tables e below (s₁.setTop (mkF m 268 #[.val (.ref o0), .val (.int p1), .val (.int p2), .val (.int ((own_at cs p1) &&& (255 : Int32))), .val (.int (2 : Int32)), .val (.int (((((((own_at cs p1) &&& (255 : Int32)) &&& (15 : Int32)) <<< ((6 : Int32) &&& 31)) ||| (((own_at cs (p1 + (1 : Int32))) &&& (255 : Int32)) &&& (63 : Int32))) <<< ((6 : Int32) &&& 31)) ||| (((own_at cs (p1 + (2 : Int32))) &&& (255 : Int32)) &&& (63 : Int32)))), .val (.int (2048 : Int32)), .val (.int ((own_at cs (p1 + (1 : Int32))) &&& (255 : Int32))), .val (.int ((own_at cs (p1 + (2 : Int32))) &&& (255 : Int32)))] [])) _
                    refine XS.iconst X0.here hx rfl (hb hby d5_268) ?_
                    show Steps p.tables e below (s₁.setTop (mkF m 269 #[.val (.ref o0), .val (.int p1), .val (.int p2), .val (.int ((own_at cs p1) &&& (255 : Int32))), .val (.int (2 : Int32)), .val (.int (((((((own_at cs p1) &&& (255 : Int32)) &&& (15 : Int32)) <<< ((6 : Int32) &&& 31)) ||| (((own_at cs (p1 + (1 : Int32))) &&& (255 : Int32)) &&& (63 : Int32))) <<< ((6 : Int32) &&& 31)) ||| (((own_at cs (p1 + (2 : Int32))) &&& (255 : Int32)) &&& (63 : Int32)))), .val (.int (2048 : Int32)), .val (.int ((own_at cs (p1 + (1 : Int32))) &&& (255 : Int32))), .val (.int ((own_at cs (p1 + (2 : Int32))) &&& (255 : Int32)))] [(.int (-1 : Int32))])) _
                    exact retI X0 hx Bd.returns (hb hby d5_269) hr
                  · show rm5Q Z cs p1 p2 h0 n0 _ s₁.heap _
                    rw [e0]
                    exact ⟨(by rw [show own_f5 cs p1 p2 = (-1 : Int32) from by simp only [own_f5, if_neg hc12_3, if_neg hc27_5, if_pos hc55_20, if_pos hc109_22, if_pos hc134_25, if_pos hc178_28, if_neg hc244_30, if_pos hc251_32]]), N0, rfl⟩
                · have pre33 : ∀ t, Steps p.tables e below (s₁.setTop (mkF m 258 #[.val (.ref o0), .val (.int p1), .val (.int p2), .val (.int ((own_at cs p1) &&& (255 : Int32))), .val (.int (2 : Int32)), .val (.int (((((((own_at cs p1) &&& (255 : Int32)) &&& (15 : Int32)) <<< ((6 : Int32) &&& 31)) ||| (((own_at cs (p1 + (1 : Int32))) &&& (255 : Int32)) &&& (63 : Int32))) <<< ((6 : Int32) &&& 31)) ||| (((own_at cs (p1 + (2 : Int32))) &&& (255 : Int32)) &&& (63 : Int32)))), .val (.int (2048 : Int32)), .val (.int ((own_at cs (p1 + (1 : Int32))) &&& (255 : Int32))), .val (.int ((own_at cs (p1 + (2 : Int32))) &&& (255 : Int32)))] [(.int (55296 : Int32)), (.int (((((((own_at cs p1) &&& (255 : Int32)) &&& (15 : Int32)) <<< ((6 : Int32) &&& 31)) ||| (((own_at cs (p1 + (1 : Int32))) &&& (255 : Int32)) &&& (63 : Int32))) <<< ((6 : Int32) &&& 31)) ||| (((own_at cs (p1 + (2 : Int32))) &&& (255 : Int32)) &&& (63 : Int32))))])) t → Steps p.tables e below (s₁.setTop (entryFrame m #[(.ref o0), (.int p1), (.int p2)] 9)) t := fun t k => pre31 t (by
                    show Steps p.tables e below (s₁.setTop (mkF m 251 #[.val (.ref o0), .val (.int p1), .val (.int p2), .val (.int ((own_at cs p1) &&& (255 : Int32))), .val (.int (2 : Int32)), .val (.int (((((((own_at cs p1) &&& (255 : Int32)) &&& (15 : Int32)) <<< ((6 : Int32) &&& 31)) ||| (((own_at cs (p1 + (1 : Int32))) &&& (255 : Int32)) &&& (63 : Int32))) <<< ((6 : Int32) &&& 31)) ||| (((own_at cs (p1 + (2 : Int32))) &&& (255 : Int32)) &&& (63 : Int32)))), .val (.int (2048 : Int32)), .val (.int ((own_at cs (p1 + (1 : Int32))) &&& (255 : Int32))), .val (.int ((own_at cs (p1 + (2 : Int32))) &&& (255 : Int32)))] [(.int (1114111 : Int32)), (.int (((((((own_at cs p1) &&& (255 : Int32)) &&& (15 : Int32)) <<< ((6 : Int32) &&& 31)) ||| (((own_at cs (p1 + (1 : Int32))) &&& (255 : Int32)) &&& (63 : Int32))) <<< ((6 : Int32) &&& 31)) ||| (((own_at cs (p1 + (2 : Int32))) &&& (255 : Int32)) &&& (63 : Int32))))])) _
                    refine XS.icmpNo X0.here hx rfl (hb hby d5_251) rfl (flt hc251_32).2.2.1 ?_
                    show Steps p.tables e below (s₁.setTop (mkF m 254 #[.val (.ref o0), .val (.int p1), .val (.int p2), .val (.int ((own_at cs p1) &&& (255 : Int32))), .val (.int (2 : Int32)), .val (.int (((((((own_at cs p1) &&& (255 : Int32)) &&& (15 : Int32)) <<< ((6 : Int32) &&& 31)) ||| (((own_at cs (p1 + (1 : Int32))) &&& (255 : Int32)) &&& (63 : Int32))) <<< ((6 : Int32) &&& 31)) ||| (((own_at cs (p1 + (2 : Int32))) &&& (255 : Int32)) &&& (63 : Int32)))), .val (.int (2048 : Int32)), .val (.int ((own_at cs (p1 + (1 : Int32))) &&& (255 : Int32))), .val (.int ((own_at cs (p1 + (2 : Int32))) &&& (255 : Int32)))] [])) _
                    refine XS.iload X0.here hx rfl (hb hby d5_254) rfl ?_
                    show Steps p.tables e below (s₁.setTop (mkF m 256 #[.val (.ref o0), .val (.int p1), .val (.int p2), .val (.int ((own_at cs p1) &&& (255 : Int32))), .val (.int (2 : Int32)), .val (.int (((((((own_at cs p1) &&& (255 : Int32)) &&& (15 : Int32)) <<< ((6 : Int32) &&& 31)) ||| (((own_at cs (p1 + (1 : Int32))) &&& (255 : Int32)) &&& (63 : Int32))) <<< ((6 : Int32) &&& 31)) ||| (((own_at cs (p1 + (2 : Int32))) &&& (255 : Int32)) &&& (63 : Int32)))), .val (.int (2048 : Int32)), .val (.int ((own_at cs (p1 + (1 : Int32))) &&& (255 : Int32))), .val (.int ((own_at cs (p1 + (2 : Int32))) &&& (255 : Int32)))] [(.int (((((((own_at cs p1) &&& (255 : Int32)) &&& (15 : Int32)) <<< ((6 : Int32) &&& 31)) ||| (((own_at cs (p1 + (1 : Int32))) &&& (255 : Int32)) &&& (63 : Int32))) <<< ((6 : Int32) &&& 31)) ||| (((own_at cs (p1 + (2 : Int32))) &&& (255 : Int32)) &&& (63 : Int32))))])) _
                    refine X0.ldcInt hx hown (mvT hZ (hw _ (List.mem_of_getElem? (i := 21) rfl))) (g := (mkF m 256 #[.val (.ref o0), .val (.int p1), .val (.int p2), .val (.int ((own_at cs p1) &&& (255 : Int32))), .val (.int (2 : Int32)), .val (.int (((((((own_at cs p1) &&& (255 : Int32)) &&& (15 : Int32)) <<< ((6 : Int32) &&& 31)) ||| (((own_at cs (p1 + (1 : Int32))) &&& (255 : Int32)) &&& (63 : Int32))) <<< ((6 : Int32) &&& 31)) ||| (((own_at cs (p1 + (2 : Int32))) &&& (255 : Int32)) &&& (63 : Int32)))), .val (.int (2048 : Int32)), .val (.int ((own_at cs (p1 + (1 : Int32))) &&& (255 : Int32))), .val (.int ((own_at cs (p1 + (2 : Int32))) &&& (255 : Int32)))] [(.int (((((((own_at cs p1) &&& (255 : Int32)) &&& (15 : Int32)) <<< ((6 : Int32) &&& 31)) ||| (((own_at cs (p1 + (1 : Int32))) &&& (255 : Int32)) &&& (63 : Int32))) <<< ((6 : Int32) &&& 31)) ||| (((own_at cs (p1 + (2 : Int32))) &&& (255 : Int32)) &&& (63 : Int32))))])) rfl (hb hby d5_256) _ ?_
                    exact k)
                  by_cases hc258_34 : (((((((own_at cs p1) &&& (255 : Int32)) &&& (15 : Int32)) <<< ((6 : Int32) &&& 31)) ||| (((own_at cs (p1 + (1 : Int32))) &&& (255 : Int32)) &&& (63 : Int32))) <<< ((6 : Int32) &&& 31)) ||| (((own_at cs (p1 + (2 : Int32))) &&& (255 : Int32)) &&& (63 : Int32))) < (55296 : Int32)
                  · obtain ⟨fs, hr, hrun, hended, hW, hsame⟩ := X0.leave (v := some (.int ((p1 + (2 : Int32)) + (1 : Int32)))) (fun h => by rw [Bd.returns] at h; cases h)
                    refine ⟨_, _, pre33 _ ?_, hrun, hended, _, _, rfl, ?_, ⟨_, rfl⟩, hW, hsame.mono (by decide) (by decide)⟩
                    · show Steps p.tables e below (s₁.setTop (mkF m 258 #[.val (.ref o0), .val (.int p1), .val (.int p2), .val (.int ((own_at cs p1) &&& (255 : Int32))), .val (.int (2 : Int32)), .val (.int (((((((own_at cs p1) &&& (255 : Int32)) &&& (15 : Int32)) <<< ((6 : Int32) &&& 31)) ||| (((own_at cs (p1 + (1 : Int32))) &&& (255 : Int32)) &&& (63 : Int32))) <<< ((6 : Int32) &&& 31)) ||| (((own_at cs (p1 + (2 : Int32))) &&& (255 : Int32)) &&& (63 : Int32)))), .val (.int (2048 : Int32)), .val (.int ((own_at cs (p1 + (1 : Int32))) &&& (255 : Int32))), .val (.int ((own_at cs (p1 + (2 : Int32))) &&& (255 : Int32)))] [(.int (55296 : Int32)), (.int (((((((own_at cs p1) &&& (255 : Int32)) &&& (15 : Int32)) <<< ((6 : Int32) &&& 31)) ||| (((own_at cs (p1 + (1 : Int32))) &&& (255 : Int32)) &&& (63 : Int32))) <<< ((6 : Int32) &&& 31)) ||| (((own_at cs (p1 + (2 : Int32))) &&& (255 : Int32)) &&& (63 : Int32))))])) _
                      refine XS.icmpYes X0.here hx rfl (pc0 := 258) (pc' := 270) rfl (hb hby d5_258) rfl (tlt hc258_34).1 (by decide) (by decide) ?_
                      show Steps p.tables e below (s₁.setTop (mkF m 270 #[.val (.ref o0), .val (.int p1), .val (.int p2), .val (.int ((own_at cs p1) &&& (255 : Int32))), .val (.int (2 : Int32)), .val (.int (((((((own_at cs p1) &&& (255 : Int32)) &&& (15 : Int32)) <<< ((6 : Int32) &&& 31)) ||| (((own_at cs (p1 + (1 : Int32))) &&& (255 : Int32)) &&& (63 : Int32))) <<< ((6 : Int32) &&& 31)) ||| (((own_at cs (p1 + (2 : Int32))) &&& (255 : Int32)) &&& (63 : Int32)))), .val (.int (2048 : Int32)), .val (.int ((own_at cs (p1 + (1 : Int32))) &&& (255 : Int32))), .val (.int ((own_at cs (p1 + (2 : Int32))) &&& (255 : Int32)))] [])) _
                      refine XS.iloadN X0.here hx rfl (hb hby d5_270) rfl ?_
                      show Steps p.tables e below (s₁.setTop (mkF m 271 #[.val (.ref o0), .val (.int p1), .val (.int p2), .val (.int ((own_at cs p1) &&& (255 : Int32))), .val (.int (2 : Int32)), .val (.int (((((((own_at cs p1) &&& (255 : Int32)) &&& (15 : Int32)) <<< ((6 : Int32) &&& 31)) ||| (((own_at cs (p1 + (1 : Int32))) &&& (255 : Int32)) &&& (63 : Int32))) <<< ((6 : Int32) &&& 31)) ||| (((own_at cs (p1 + (2 : Int32))) &&& (255 : Int32)) &&& (63 : Int32)))), .val (.int (2048 : Int32)), .val (.int ((own_at cs (p1 + (1 : Int32))) &&& (255 : Int32))), .val (.int ((own_at cs (p1 + (2 : Int32))) &&& (255 : Int32)))] [(.int p1)])) _
                      refine XS.iload X0.here hx rfl (hb hby d5_271) rfl ?_
                      show Steps p.tables e below (s₁.setTop (mkF m 273 #[.val (.ref o0), .val (.int p1), .val (.int p2), .val (.int ((own_at cs p1) &&& (255 : Int32))), .val (.int (2 : Int32)), .val (.int (((((((own_at cs p1) &&& (255 : Int32)) &&& (15 : Int32)) <<< ((6 : Int32) &&& 31)) ||| (((own_at cs (p1 + (1 : Int32))) &&& (255 : Int32)) &&& (63 : Int32))) <<< ((6 : Int32) &&& 31)) ||| (((own_at cs (p1 + (2 : Int32))) &&& (255 : Int32)) &&& (63 : Int32)))), .val (.int (2048 : Int32)), .val (.int ((own_at cs (p1 + (1 : Int32))) &&& (255 : Int32))), .val (.int ((own_at cs (p1 + (2 : Int32))) &&& (255 : Int32)))] [(.int (2 : Int32)), (.int p1)])) _
                      refine XS.iadd X0.here hx rfl (hb hby d5_273) rfl ?_
                      show Steps p.tables e below (s₁.setTop (mkF m 274 #[.val (.ref o0), .val (.int p1), .val (.int p2), .val (.int ((own_at cs p1) &&& (255 : Int32))), .val (.int (2 : Int32)), .val (.int (((((((own_at cs p1) &&& (255 : Int32)) &&& (15 : Int32)) <<< ((6 : Int32) &&& 31)) ||| (((own_at cs (p1 + (1 : Int32))) &&& (255 : Int32)) &&& (63 : Int32))) <<< ((6 : Int32) &&& 31)) ||| (((own_at cs (p1 + (2 : Int32))) &&& (255 : Int32)) &&& (63 : Int32)))), .val (.int (2048 : Int32)), .val (.int ((own_at cs (p1 + (1 : Int32))) &&& (255 : Int32))), .val (.int ((own_at cs (p1 + (2 : Int32))) &&& (255 : Int32)))] [(.int (p1 + (2 : Int32)))])) _
                      refine XS.iconst X0.here hx rfl (hb hby d5_274) ?_
                      show Steps p.tables e below (s₁.setTop (mkF m 275 #[.val (.ref o0), .val (.int p1), .val (.int p2), .val (.int ((own_at cs p1) &&& (255 : Int32))), .val (.int (2 : Int32)), .val (.int (((((((own_at cs p1) &&& (255 : Int32)) &&& (15 : Int32)) <<< ((6 : Int32) &&& 31)) ||| (((own_at cs (p1 + (1 : Int32))) &&& (255 : Int32)) &&& (63 : Int32))) <<< ((6 : Int32) &&& 31)) ||| (((own_at cs (p1 + (2 : Int32))) &&& (255 : Int32)) &&& (63 : Int32)))), .val (.int (2048 : Int32)), .val (.int ((own_at cs (p1 + (1 : Int32))) &&& (255 : Int32))), .val (.int ((own_at cs (p1 + (2 : Int32))) &&& (255 : Int32)))] [(.int (1 : Int32)), (.int (p1 + (2 : Int32)))])) _
                      refine XS.iadd X0.here hx rfl (hb hby d5_275) rfl ?_
                      show Steps p.tables e below (s₁.setTop (mkF m 276 #[.val (.ref o0), .val (.int p1), .val (.int p2), .val (.int ((own_at cs p1) &&& (255 : Int32))), .val (.int (2 : Int32)), .val (.int (((((((own_at cs p1) &&& (255 : Int32)) &&& (15 : Int32)) <<< ((6 : Int32) &&& 31)) ||| (((own_at cs (p1 + (1 : Int32))) &&& (255 : Int32)) &&& (63 : Int32))) <<< ((6 : Int32) &&& 31)) ||| (((own_at cs (p1 + (2 : Int32))) &&& (255 : Int32)) &&& (63 : Int32)))), .val (.int (2048 : Int32)), .val (.int ((own_at cs (p1 + (1 : Int32))) &&& (255 : Int32))), .val (.int ((own_at cs (p1 + (2 : Int32))) &&& (255 : Int32)))] [(.int ((p1 + (2 : Int32)) + (1 : Int32)))])) _
                      exact retI X0 hx Bd.returns (hb hby d5_276) hr
                    · show rm5Q Z cs p1 p2 h0 n0 _ s₁.heap _
                      rw [e0]
                      exact ⟨(by rw [show own_f5 cs p1 p2 = ((p1 + (2 : Int32)) + (1 : Int32)) from by simp only [own_f5, if_neg hc12_3, if_neg hc27_5, if_pos hc55_20, if_pos hc109_22, if_pos hc134_25, if_pos hc178_28, if_neg hc244_30, if_neg hc251_32, if_pos hc258_34]]), N0, rfl⟩
                  · have pre35 : ∀ t, Steps p.tables e below (s₁.setTop (mkF m 265 #[.val (.ref o0), .val (.int p1), .val (.int p2), .val (.int ((own_at cs p1) &&& (255 : Int32))), .val (.int (2 : Int32)), .val (.int (((((((own_at cs p1) &&& (255 : Int32)) &&& (15 : Int32)) <<< ((6 : Int32) &&& 31)) ||| (((own_at cs (p1 + (1 : Int32))) &&& (255 : Int32)) &&& (63 : Int32))) <<< ((6 : Int32) &&& 31)) ||| (((own_at cs (p1 + (2 : Int32))) &&& (255 : Int32)) &&& (63 : Int32)))), .val (.int (2048 : Int32)), .val (.int ((own_at cs (p1 + (1 : Int32))) &&& (255 : Int32))), .val (.int ((own_at cs (p1 + (2 : Int32))) &&& (255 : Int32)))] [(.int (57343 : Int32)), (.int (((((((own_at cs p1) &&& (255 : Int32)) &&& (15 : Int32)) <<< ((6 : Int32) &&& 31)) ||| (((own_at cs (p1 + (1 : Int32))) &&& (255 : Int32)) &&& (63 : Int32))) <<< ((6 : Int32) &&& 31)) ||| (((own_at cs (p1 + (2 : Int32))) &&& (255 : Int32)) &&& (63 : Int32))))])) t → Steps p.tables e below (s₁.setTop (entryFrame m #[(.ref o0), (.int p1), (.int p2)] 9)) t := fun t k => pre33 t (by
                      show Steps p.tables e below (s₁.setTop (mkF m 258 #[.val (.ref o0), .val (.int p1), .val (.int p2), .val (.int ((own_at cs p1) &&& (255 : Int32))), .val (.int (2 : Int32)), .val (.int (((((((own_at cs p1) &&& (255 : Int32)) &&& (15 : Int32)) <<< ((6 : Int32) &&& 31)) ||| (((own_at cs (p1 + (1 : Int32))) &&& (255 : Int32)) &&& (63 : Int32))) <<< ((6 : Int32) &&& 31)) ||| (((own_at cs (p1 + (2 : Int32))) &&& (255 : Int32)) &&& (63 : Int32)))), .val (.int (2048 : Int32)), .val (.int ((own_at cs (p1 + (1 : Int32))) &&& (255 : Int32))), .val (.int ((own_at cs (p1 + (2 : Int32))) &&& (255 : Int32)))] [(.int (55296 : Int32)), (.int (((((((own_at cs p1) &&& (255 : Int32)) &&& (15 : Int32)) <<< ((6 : Int32) &&& 31)) ||| (((own_at cs (p1 + (1 : Int32))) &&& (255 : Int32)) &&& (63 : Int32))) <<< ((6 : Int32) &&& 31)) ||| (((own_at cs (p1 + (2 : Int32))) &&& (255 : Int32)) &&& (63 : Int32))))])) _
                      refine XS.icmpNo X0.here hx rfl (hb hby d5_258) rfl (flt hc258_34).1 ?_
                      show Steps p.tables e below (s₁.setTop (mkF m 261 #[.val (.ref o0), .val (.int p1), .val (.int p2), .val (.int ((own_at cs p1) &&& (255 : Int32))), .val (.int (2 : Int32)), .val (.int (((((((own_at cs p1) &&& (255 : Int32)) &&& (15 : Int32)) <<< ((6 : Int32) &&& 31)) ||| (((own_at cs (p1 + (1 : Int32))) &&& (255 : Int32)) &&& (63 : Int32))) <<< ((6 : Int32) &&& 31)) ||| (((own_at cs (p1 + (2 : Int32))) &&& (255 : Int32)) &&& (63 : Int32)))), .val (.int (2048 : Int32)), .val (.int ((own_at cs (p1 + (1 : Int32))) &&& (255 : Int32))), .val (.int ((own_at cs (p1 + (2 : Int32))) &&& (255 : Int32)))] [])) _
                      refine XS.iload X0.here hx rfl (hb hby d5_261) rfl ?_
                      show Steps p.tables e below (s₁.setTop (mkF m 263 #[.val (.ref o0), .val (.int p1), .val (.int p2), .val (.int ((own_at cs p1) &&& (255 : Int32))), .val (.int (2 : Int32)), .val (.int (((((((own_at cs p1) &&& (255 : Int32)) &&& (15 : Int32)) <<< ((6 : Int32) &&& 31)) ||| (((own_at cs (p1 + (1 : Int32))) &&& (255 : Int32)) &&& (63 : Int32))) <<< ((6 : Int32) &&& 31)) ||| (((own_at cs (p1 + (2 : Int32))) &&& (255 : Int32)) &&& (63 : Int32)))), .val (.int (2048 : Int32)), .val (.int ((own_at cs (p1 + (1 : Int32))) &&& (255 : Int32))), .val (.int ((own_at cs (p1 + (2 : Int32))) &&& (255 : Int32)))] [(.int (((((((own_at cs p1) &&& (255 : Int32)) &&& (15 : Int32)) <<< ((6 : Int32) &&& 31)) ||| (((own_at cs (p1 + (1 : Int32))) &&& (255 : Int32)) &&& (63 : Int32))) <<< ((6 : Int32) &&& 31)) ||| (((own_at cs (p1 + (2 : Int32))) &&& (255 : Int32)) &&& (63 : Int32))))])) _
                      refine X0.ldcInt hx hown (mvT hZ (hw _ (List.mem_of_getElem? (i := 23) rfl))) (g := (mkF m 263 #[.val (.ref o0), .val (.int p1), .val (.int p2), .val (.int ((own_at cs p1) &&& (255 : Int32))), .val (.int (2 : Int32)), .val (.int (((((((own_at cs p1) &&& (255 : Int32)) &&& (15 : Int32)) <<< ((6 : Int32) &&& 31)) ||| (((own_at cs (p1 + (1 : Int32))) &&& (255 : Int32)) &&& (63 : Int32))) <<< ((6 : Int32) &&& 31)) ||| (((own_at cs (p1 + (2 : Int32))) &&& (255 : Int32)) &&& (63 : Int32)))), .val (.int (2048 : Int32)), .val (.int ((own_at cs (p1 + (1 : Int32))) &&& (255 : Int32))), .val (.int ((own_at cs (p1 + (2 : Int32))) &&& (255 : Int32)))] [(.int (((((((own_at cs p1) &&& (255 : Int32)) &&& (15 : Int32)) <<< ((6 : Int32) &&& 31)) ||| (((own_at cs (p1 + (1 : Int32))) &&& (255 : Int32)) &&& (63 : Int32))) <<< ((6 : Int32) &&& 31)) ||| (((own_at cs (p1 + (2 : Int32))) &&& (255 : Int32)) &&& (63 : Int32))))])) rfl (hb hby d5_263) _ ?_
                      exact k)
                    by_cases hc265_36 : (57343 : Int32) < (((((((own_at cs p1) &&& (255 : Int32)) &&& (15 : Int32)) <<< ((6 : Int32) &&& 31)) ||| (((own_at cs (p1 + (1 : Int32))) &&& (255 : Int32)) &&& (63 : Int32))) <<< ((6 : Int32) &&& 31)) ||| (((own_at cs (p1 + (2 : Int32))) &&& (255 : Int32)) &&& (63 : Int32)))
                    · obtain ⟨fs, hr, hrun, hended, hW, hsame⟩ := X0.leave (v := some (.int ((p1 + (2 : Int32)) + (1 : Int32)))) (fun h => by rw [Bd.returns] at h; cases h)
                      refine ⟨_, _, pre35 _ ?_, hrun, hended, _, _, rfl, ?_, ⟨_, rfl⟩, hW, hsame.mono (by decide) (by decide)⟩
                      · show Steps p.tables e below (s₁.setTop (mkF m 265 #[.val (.ref o0), .val (.int p1), .val (.int p2), .val (.int ((own_at cs p1) &&& (255 : Int32))), .val (.int (2 : Int32)), .val (.int (((((((own_at cs p1) &&& (255 : Int32)) &&& (15 : Int32)) <<< ((6 : Int32) &&& 31)) ||| (((own_at cs (p1 + (1 : Int32))) &&& (255 : Int32)) &&& (63 : Int32))) <<< ((6 : Int32) &&& 31)) ||| (((own_at cs (p1 + (2 : Int32))) &&& (255 : Int32)) &&& (63 : Int32)))), .val (.int (2048 : Int32)), .val (.int ((own_at cs (p1 + (1 : Int32))) &&& (255 : Int32))), .val (.int ((own_at cs (p1 + (2 : Int32))) &&& (255 : Int32)))] [(.int (57343 : Int32)), (.int (((((((own_at cs p1) &&& (255 : Int32)) &&& (15 : Int32)) <<< ((6 : Int32) &&& 31)) ||| (((own_at cs (p1 + (1 : Int32))) &&& (255 : Int32)) &&& (63 : Int32))) <<< ((6 : Int32) &&& 31)) ||| (((own_at cs (p1 + (2 : Int32))) &&& (255 : Int32)) &&& (63 : Int32))))])) _
                        refine XS.icmpYes X0.here hx rfl (pc0 := 265) (pc' := 270) rfl (hb hby d5_265) rfl (tlt hc265_36).2.2.1 (by decide) (by decide) ?_
                        show Steps p.tables e below (s₁.setTop (mkF m 270 #[.val (.ref o0), .val (.int p1), .val (.int p2), .val (.int ((own_at cs p1) &&& (255 : Int32))), .val (.int (2 : Int32)), .val (.int (((((((own_at cs p1) &&& (255 : Int32)) &&& (15 : Int32)) <<< ((6 : Int32) &&& 31)) ||| (((own_at cs (p1 + (1 : Int32))) &&& (255 : Int32)) &&& (63 : Int32))) <<< ((6 : Int32) &&& 31)) ||| (((own_at cs (p1 + (2 : Int32))) &&& (255 : Int32)) &&& (63 : Int32)))), .val (.int (2048 : Int32)), .val (.int ((own_at cs (p1 + (1 : Int32))) &&& (255 : Int32))), .val (.int ((own_at cs (p1 + (2 : Int32))) &&& (255 : Int32)))] [])) _
                        refine XS.iloadN X0.here hx rfl (hb hby d5_270) rfl ?_
                        show Steps p.tables e below (s₁.setTop (mkF m 271 #[.val (.ref o0), .val (.int p1), .val (.int p2), .val (.int ((own_at cs p1) &&& (255 : Int32))), .val (.int (2 : Int32)), .val (.int (((((((own_at cs p1) &&& (255 : Int32)) &&& (15 : Int32)) <<< ((6 : Int32) &&& 31)) ||| (((own_at cs (p1 + (1 : Int32))) &&& (255 : Int32)) &&& (63 : Int32))) <<< ((6 : Int32) &&& 31)) ||| (((own_at cs (p1 + (2 : Int32))) &&& (255 : Int32)) &&& (63 : Int32)))), .val (.int (2048 : Int32)), .val (.int ((own_at cs (p1 + (1 : Int32))) &&& (255 : Int32))), .val (.int ((own_at cs (p1 + (2 : Int32))) &&& (255 : Int32)))] [(.int p1)])) _
                        refine XS.iload X0.here hx rfl (hb hby d5_271) rfl ?_
                        show Steps p.tables e below (s₁.setTop (mkF m 273 #[.val (.ref o0), .val (.int p1), .val (.int p2), .val (.int ((own_at cs p1) &&& (255 : Int32))), .val (.int (2 : Int32)), .val (.int (((((((own_at cs p1) &&& (255 : Int32)) &&& (15 : Int32)) <<< ((6 : Int32) &&& 31)) ||| (((own_at cs (p1 + (1 : Int32))) &&& (255 : Int32)) &&& (63 : Int32))) <<< ((6 : Int32) &&& 31)) ||| (((own_at cs (p1 + (2 : Int32))) &&& (255 : Int32)) &&& (63 : Int32)))), .val (.int (2048 : Int32)), .val (.int ((own_at cs (p1 + (1 : Int32))) &&& (255 : Int32))), .val (.int ((own_at cs (p1 + (2 : Int32))) &&& (255 : Int32)))] [(.int (2 : Int32)), (.int p1)])) _
                        refine XS.iadd X0.here hx rfl (hb hby d5_273) rfl ?_
                        show Steps p.tables e below (s₁.setTop (mkF m 274 #[.val (.ref o0), .val (.int p1), .val (.int p2), .val (.int ((own_at cs p1) &&& (255 : Int32))), .val (.int (2 : Int32)), .val (.int (((((((own_at cs p1) &&& (255 : Int32)) &&& (15 : Int32)) <<< ((6 : Int32) &&& 31)) ||| (((own_at cs (p1 + (1 : Int32))) &&& (255 : Int32)) &&& (63 : Int32))) <<< ((6 : Int32) &&& 31)) ||| (((own_at cs (p1 + (2 : Int32))) &&& (255 : Int32)) &&& (63 : Int32)))), .val (.int (2048 : Int32)), .val (.int ((own_at cs (p1 + (1 : Int32))) &&& (255 : Int32))), .val (.int ((own_at cs (p1 + (2 : Int32))) &&& (255 : Int32)))] [(.int (p1 + (2 : Int32)))])) _
                        refine XS.iconst X0.here hx rfl (hb hby d5_274) ?_
                        show Steps p.tables e below (s₁.setTop (mkF m 275 #[.val (.ref o0), .val (.int p1), .val (.int p2), .val (.int ((own_at cs p1) &&& (255 : Int32))), .val (.int (2 : Int32)), .val (.int (((((((own_at cs p1) &&& (255 : Int32)) &&& (15 : Int32)) <<< ((6 : Int32) &&& 31)) ||| (((own_at cs (p1 + (1 : Int32))) &&& (255 : Int32)) &&& (63 : Int32))) <<< ((6 : Int32) &&& 31)) ||| (((own_at cs (p1 + (2 : Int32))) &&& (255 : Int32)) &&& (63 : Int32)))), .val (.int (2048 : Int32)), .val (.int ((own_at cs (p1 + (1 : Int32))) &&& (255 : Int32))), .val (.int ((own_at cs (p1 + (2 : Int32))) &&& (255 : Int32)))] [(.int (1 : Int32)), (.int (p1 + (2 : Int32)))])) _
                        refine XS.iadd X0.here hx rfl (hb hby d5_275) rfl ?_
                        show Steps p.tables e below (s₁.setTop (mkF m 276 #[.val (.ref o0), .val (.int p1), .val (.int p2), .val (.int ((own_at cs p1) &&& (255 : Int32))), .val (.int (2 : Int32)), .val (.int (((((((own_at cs p1) &&& (255 : Int32)) &&& (15 : Int32)) <<< ((6 : Int32) &&& 31)) ||| (((own_at cs (p1 + (1 : Int32))) &&& (255 : Int32)) &&& (63 : Int32))) <<< ((6 : Int32) &&& 31)) ||| (((own_at cs (p1 + (2 : Int32))) &&& (255 : Int32)) &&& (63 : Int32)))), .val (.int (2048 : Int32)), .val (.int ((own_at cs (p1 + (1 : Int32))) &&& (255 : Int32))), .val (.int ((own_at cs (p1 + (2 : Int32))) &&& (255 : Int32)))] [(.int ((p1 + (2 : Int32)) + (1 : Int32)))])) _
                        exact retI X0 hx Bd.returns (hb hby d5_276) hr
                      · show rm5Q Z cs p1 p2 h0 n0 _ s₁.heap _
                        rw [e0]
                        exact ⟨(by rw [show own_f5 cs p1 p2 = ((p1 + (2 : Int32)) + (1 : Int32)) from by simp only [own_f5, if_neg hc12_3, if_neg hc27_5, if_pos hc55_20, if_pos hc109_22, if_pos hc134_25, if_pos hc178_28, if_neg hc244_30, if_neg hc251_32, if_neg hc258_34, if_pos hc265_36]]), N0, rfl⟩
                    · obtain ⟨fs, hr, hrun, hended, hW, hsame⟩ := X0.leave (v := some (.int (-1 : Int32))) (fun h => by rw [Bd.returns] at h; cases h)
                      refine ⟨_, _, pre35 _ ?_, hrun, hended, _, _, rfl, ?_, ⟨_, rfl⟩, hW, hsame.mono (by decide) (by decide)⟩
                      · show Steps p.tables e below (s₁.setTop (mkF m 265 #[.val (.ref o0), .val (.int p1), .val (.int p2), .val (.int ((own_at cs p1) &&& (255 : Int32))), .val (.int (2 : Int32)), .val (.int (((((((own_at cs p1) &&& (255 : Int32)) &&& (15 : Int32)) <<< ((6 : Int32) &&& 31)) ||| (((own_at cs (p1 + (1 : Int32))) &&& (255 : Int32)) &&& (63 : Int32))) <<< ((6 : Int32) &&& 31)) ||| (((own_at cs (p1 + (2 : Int32))) &&& (255 : Int32)) &&& (63 : Int32)))), .val (.int (2048 : Int32)), .val (.int ((own_at cs (p1 + (1 : Int32))) &&& (255 : Int32))), .val (.int ((own_at cs (p1 + (2 : Int32))) &&& (255 : Int32)))] [(.int (57343 : Int32)), (.int (((((((own_at cs p1) &&& (255 : Int32)) &&& (15 : Int32)) <<< ((6 : Int32) &&& 31)) ||| (((own_at cs (p1 + (1 : Int32))) &&& (255 : Int32)) &&& (63 : Int32))) <<< ((6 : Int32) &&& 31)) ||| (((own_at cs (p1 + (2 : Int32))) &&& (255 : Int32)) &&& (63 : Int32))))])) _
                        refine XS.icmpNo X0.here hx rfl (hb hby d5_265) rfl (flt hc265_36).2.2.1 ?_
                        show Steps p.tables e below (s₁.setTop (mkF m 268 #[.val (.ref o0), .val (.int p1), .val (.int p2), .val (.int ((own_at cs p1) &&& (255 : Int32))), .val (.int (2 : Int32)), .val (.int (((((((own_at cs p1) &&& (255 : Int32)) &&& (15 : Int32)) <<< ((6 : Int32) &&& 31)) ||| (((own_at cs (p1 + (1 : Int32))) &&& (255 : Int32)) &&& (63 : Int32))) <<< ((6 : Int32) &&& 31)) ||| (((own_at cs (p1 + (2 : Int32))) &&& (255 : Int32)) &&& (63 : Int32)))), .val (.int (2048 : Int32)), .val (.int ((own_at cs (p1 + (1 : Int32))) &&& (255 : Int32))), .val (.int ((own_at cs (p1 + (2 : Int32))) &&& (255 : Int32)))] [])) _
                        refine XS.iconst X0.here hx rfl (hb hby d5_268) ?_
                        show Steps p.tables e below (s₁.setTop (mkF m 269 #[.val (.ref o0), .val (.int p1), .val (.int p2), .val (.int ((own_at cs p1) &&& (255 : Int32))), .val (.int (2 : Int32)), .val (.int (((((((own_at cs p1) &&& (255 : Int32)) &&& (15 : Int32)) <<< ((6 : Int32) &&& 31)) ||| (((own_at cs (p1 + (1 : Int32))) &&& (255 : Int32)) &&& (63 : Int32))) <<< ((6 : Int32) &&& 31)) ||| (((own_at cs (p1 + (2 : Int32))) &&& (255 : Int32)) &&& (63 : Int32)))), .val (.int (2048 : Int32)), .val (.int ((own_at cs (p1 + (1 : Int32))) &&& (255 : Int32))), .val (.int ((own_at cs (p1 + (2 : Int32))) &&& (255 : Int32)))] [(.int (-1 : Int32))])) _
                        exact retI X0 hx Bd.returns (hb hby d5_269) hr
                      · show rm5Q Z cs p1 p2 h0 n0 _ s₁.heap _
                        rw [e0]
                        exact ⟨(by rw [show own_f5 cs p1 p2 = (-1 : Int32) from by simp only [own_f5, if_neg hc12_3, if_neg hc27_5, if_pos hc55_20, if_pos hc109_22, if_pos hc134_25, if_pos hc178_28, if_neg hc244_30, if_neg hc251_32, if_neg hc258_34, if_neg hc265_36]]), N0, rfl⟩
            · obtain ⟨fs, hr, hrun, hended, hW, hsame⟩ := X0.leave (v := some (.int (-1 : Int32))) (fun h => by rw [Bd.returns] at h; cases h)
              refine ⟨_, _, pre27 _ ?_, hrun, hended, _, _, rfl, ?_, ⟨_, rfl⟩, hW, hsame.mono (by decide) (by decide)⟩
              · show Steps p.tables e below (s₁.setTop (mkF m 178 #[.val (.ref o0), .val (.int p1), .val (.int p2), .val (.int ((own_at cs p1) &&& (255 : Int32))), .val (.int (2 : Int32)), .val (.int (((((own_at cs p1) &&& (255 : Int32)) &&& (15 : Int32)) <<< ((6 : Int32) &&& 31)) ||| (((own_at cs (p1 + (1 : Int32))) &&& (255 : Int32)) &&& (63 : Int32)))), .val (.int (2048 : Int32)), .val (.int ((own_at cs (p1 + (1 : Int32))) &&& (255 : Int32))), .val (.int ((own_at cs (p1 + (2 : Int32))) &&& (255 : Int32)))] [(.int (128 : Int32)), (.int (((own_at cs (p1 + (2 : Int32))) &&& (255 : Int32)) &&& (192 : Int32)))])) _
                refine XS.icmpNo X0.here hx rfl (hb hby d5_178) rfl (feq hc178_28).1 ?_
                show Steps p.tables e below (s₁.setTop (mkF m 181 #[.val (.ref o0), .val (.int p1), .val (.int p2), .val (.int ((own_at cs p1) &&& (255 : Int32))), .val (.int (2 : Int32)), .val (.int (((((own_at cs p1) &&& (255 : Int32)) &&& (15 : Int32)) <<< ((6 : Int32) &&& 31)) ||| (((own_at cs (p1 + (1 : Int32))) &&& (255 : Int32)) &&& (63 : Int32)))), .val (.int (2048 : Int32)), .val (.int ((own_at cs (p1 + (1 : Int32))) &&& (255 : Int32))), .val (.int ((own_at cs (p1 + (2 : Int32))) &&& (255 : Int32)))] [])) _
                refine XS.iconst X0.here hx rfl (hb hby d5_181) ?_
                show Steps p.tables e below (s₁.setTop (mkF m 182 #[.val (.ref o0), .val (.int p1), .val (.int p2), .val (.int ((own_at cs p1) &&& (255 : Int32))), .val (.int (2 : Int32)), .val (.int (((((own_at cs p1) &&& (255 : Int32)) &&& (15 : Int32)) <<< ((6 : Int32) &&& 31)) ||| (((own_at cs (p1 + (1 : Int32))) &&& (255 : Int32)) &&& (63 : Int32)))), .val (.int (2048 : Int32)), .val (.int ((own_at cs (p1 + (1 : Int32))) &&& (255 : Int32))), .val (.int ((own_at cs (p1 + (2 : Int32))) &&& (255 : Int32)))] [(.int (-1 : Int32))])) _
                exact retI X0 hx Bd.returns (hb hby d5_182) hr
              · show rm5Q Z cs p1 p2 h0 n0 _ s₁.heap _
                rw [e0]
                exact ⟨(by rw [show own_f5 cs p1 p2 = (-1 : Int32) from by simp only [own_f5, if_neg hc12_3, if_neg hc27_5, if_pos hc55_20, if_pos hc109_22, if_pos hc134_25, if_neg hc178_28]]), N0, rfl⟩
          · obtain ⟨fs, hr, hrun, hended, hW, hsame⟩ := X0.leave (v := some (.int (-1 : Int32))) (fun h => by rw [Bd.returns] at h; cases h)
            refine ⟨_, _, pre24 _ ?_, hrun, hended, _, _, rfl, ?_, ⟨_, rfl⟩, hW, hsame.mono (by decide) (by decide)⟩
            · show Steps p.tables e below (s₁.setTop (mkF m 134 #[.val (.ref o0), .val (.int p1), .val (.int p2), .val (.int ((own_at cs p1) &&& (255 : Int32))), .val (.int (2 : Int32)), .val (.int (((own_at cs p1) &&& (255 : Int32)) &&& (15 : Int32))), .val (.int (2048 : Int32)), .val (.int ((own_at cs (p1 + (1 : Int32))) &&& (255 : Int32))), .unset] [(.int (128 : Int32)), (.int (((own_at cs (p1 + (1 : Int32))) &&& (255 : Int32)) &&& (192 : Int32)))])) _
              refine XS.icmpNo X0.here hx rfl (hb hby d5_134) rfl (feq hc134_25).1 ?_
              show Steps p.tables e below (s₁.setTop (mkF m 137 #[.val (.ref o0), .val (.int p1), .val (.int p2), .val (.int ((own_at cs p1) &&& (255 : Int32))), .val (.int (2 : Int32)), .val (.int (((own_at cs p1) &&& (255 : Int32)) &&& (15 : Int32))), .val (.int (2048 : Int32)), .val (.int ((own_at cs (p1 + (1 : Int32))) &&& (255 : Int32))), .unset] [])) _
              refine XS.iconst X0.here hx rfl (hb hby d5_137) ?_
              show Steps p.tables e below (s₁.setTop (mkF m 138 #[.val (.ref o0), .val (.int p1), .val (.int p2), .val (.int ((own_at cs p1) &&& (255 : Int32))), .val (.int (2 : Int32)), .val (.int (((own_at cs p1) &&& (255 : Int32)) &&& (15 : Int32))), .val (.int (2048 : Int32)), .val (.int ((own_at cs (p1 + (1 : Int32))) &&& (255 : Int32))), .unset] [(.int (-1 : Int32))])) _
              exact retI X0 hx Bd.returns (hb hby d5_138) hr
            · show rm5Q Z cs p1 p2 h0 n0 _ s₁.heap _
              rw [e0]
              exact ⟨(by rw [show own_f5 cs p1 p2 = (-1 : Int32) from by simp only [own_f5, if_neg hc12_3, if_neg hc27_5, if_pos hc55_20, if_pos hc109_22, if_neg hc134_25]]), N0, rfl⟩
        · obtain ⟨fs, hr, hrun, hended, hW, hsame⟩ := X0.leave (v := some (.int (-1 : Int32))) (fun h => by rw [Bd.returns] at h; cases h)
          refine ⟨_, _, pre21 _ ?_, hrun, hended, _, _, rfl, ?_, ⟨_, rfl⟩, hW, hsame.mono (by decide) (by decide)⟩
          · show Steps p.tables e below (s₁.setTop (mkF m 109 #[.val (.ref o0), .val (.int p1), .val (.int p2), .val (.int ((own_at cs p1) &&& (255 : Int32))), .val (.int (2 : Int32)), .val (.int (((own_at cs p1) &&& (255 : Int32)) &&& (15 : Int32))), .val (.int (2048 : Int32)), .unset, .unset] [(.int p2), (.int (p1 + (2 : Int32)))])) _
            refine XS.icmpNo X0.here hx rfl (hb hby d5_109) rfl (flt hc109_22).1 ?_
            show Steps p.tables e below (s₁.setTop (mkF m 112 #[.val (.ref o0), .val (.int p1), .val (.int p2), .val (.int ((own_at cs p1) &&& (255 : Int32))), .val (.int (2 : Int32)), .val (.int (((own_at cs p1) &&& (255 : Int32)) &&& (15 : Int32))), .val (.int (2048 : Int32)), .unset, .unset] [])) _
            refine XS.iconst X0.here hx rfl (hb hby d5_112) ?_
            show Steps p.tables e below (s₁.setTop (mkF m 113 #[.val (.ref o0), .val (.int p1), .val (.int p2), .val (.int ((own_at cs p1) &&& (255 : Int32))), .val (.int (2 : Int32)), .val (.int (((own_at cs p1) &&& (255 : Int32)) &&& (15 : Int32))), .val (.int (2048 : Int32)), .unset, .unset] [(.int (-1 : Int32))])) _
            exact retI X0 hx Bd.returns (hb hby d5_113) hr
          · show rm5Q Z cs p1 p2 h0 n0 _ s₁.heap _
            rw [e0]
            exact ⟨(by rw [show own_f5 cs p1 p2 = (-1 : Int32) from by simp only [own_f5, if_neg hc12_3, if_neg hc27_5, if_pos hc55_20, if_neg hc109_22]]), N0, rfl⟩
      · have pre37 : ∀ t, Steps p.tables e below (s₁.setTop (mkF m 83 #[.val (.ref o0), .val (.int p1), .val (.int p2), .val (.int ((own_at cs p1) &&& (255 : Int32))), .unset, .unset, .unset, .unset, .unset] [(.int (240 : Int32)), (.int (((own_at cs p1) &&& (255 : Int32)) &&& (248 : Int32)))])) t → Steps p.tables e below (s₁.setTop (entryFrame m #[(.ref o0), (.int p1), (.int p2)] 9)) t := fun t k => pre19 t (by
          show Steps p.tables e below (s₁.setTop (mkF m 55 #[.val (.ref o0), .val (.int p1), .val (.int p2), .val (.int ((own_at cs p1) &&& (255 : Int32))), .unset, .unset, .unset, .unset, .unset] [(.int (224 : Int32)), (.int (((own_at cs p1) &&& (255 : Int32)) &&& (240 : Int32)))])) _
          refine XS.icmpYes X0.here hx rfl (pc0 := 55) (pc' := 75) rfl (hb hby d5_55) rfl (feq hc55_20).2 (by decide) (by decide) ?_
          show Steps p.tables e below (s₁.setTop (mkF m 75 #[.val (.ref o0), .val (.int p1), .val (.int p2), .val (.int ((own_at cs p1) &&& (255 : Int32))), .unset, .unset, .unset, .unset, .unset] [])) _
          refine XS.iloadN X0.here hx rfl (hb hby d5_75) rfl ?_
          show Steps p.tables e below (s₁.setTop (mkF m 76 #[.val (.ref o0), .val (.int p1), .val (.int p2), .val (.int ((own_at cs p1) &&& (255 : Int32))), .unset, .unset, .unset, .unset, .unset] [(.int ((own_at cs p1) &&& (255 : Int32)))])) _
          refine XS.sipush X0.here hx rfl (hb hby d5_76) ?_
          show Steps p.tables e below (s₁.setTop (mkF m 79 #[.val (.ref o0), .val (.int p1), .val (.int p2), .val (.int ((own_at cs p1) &&& (255 : Int32))), .unset, .unset, .unset, .unset, .unset] [(.int (248 : Int32)), (.int ((own_at cs p1) &&& (255 : Int32)))])) _
          refine XS.iand X0.here hx rfl (hb hby d5_79) rfl ?_
          show Steps p.tables e below (s₁.setTop (mkF m 80 #[.val (.ref o0), .val (.int p1), .val (.int p2), .val (.int ((own_at cs p1) &&& (255 : Int32))), .unset, .unset, .unset, .unset, .unset] [(.int (((own_at cs p1) &&& (255 : Int32)) &&& (248 : Int32)))])) _
          refine XS.sipush X0.here hx rfl (hb hby d5_80) ?_
          exact k)
        by_cases hc83_38 : (((own_at cs p1) &&& (255 : Int32)) &&& (248 : Int32)) = (240 : Int32)
        · have pre39 : ∀ t, Steps p.tables e below (s₁.setTop (mkF m 109 #[.val (.ref o0), .val (.int p1), .val (.int p2), .val (.int ((own_at cs p1) &&& (255 : Int32))), .val (.int (3 : Int32)), .val (.int (((own_at cs p1) &&& (255 : Int32)) &&& (7 : Int32))), .val (.int (65536 : Int32)), .unset, .unset] [(.int p2), (.int (p1 + (3 : Int32)))])) t → Steps p.tables e below (s₁.setTop (entryFrame m #[(.ref o0), (.int p1), (.int p2)] 9)) t := fun t k => pre37 t (by
            show Steps p.tables e below (s₁.setTop (mkF m 83 #[.val (.ref o0), .val (.int p1), .val (.int p2), .val (.int ((own_at cs p1) &&& (255 : Int32))), .unset, .unset, .unset, .unset, .unset] [(.int (240 : Int32)), (.int (((own_at cs p1) &&& (255 : Int32)) &&& (248 : Int32)))])) _
            refine XS.icmpNo X0.here hx rfl (hb hby d5_83) rfl (teq hc83_38).2 ?_
            show Steps p.tables e below (s₁.setTop (mkF m 86 #[.val (.ref o0), .val (.int p1), .val (.int p2), .val (.int ((own_at cs p1) &&& (255 : Int32))), .unset, .unset, .unset, .unset, .unset] [])) _
            refine XS.iconst X0.here hx rfl (hb hby d5_86) ?_
            show Steps p.tables e below (s₁.setTop (mkF m 87 #[.val (.ref o0), .val (.int p1), .val (.int p2), .val (.int ((own_at cs p1) &&& (255 : Int32))), .unset, .unset, .unset, .unset, .unset] [(.int (3 : Int32))])) _
            refine XS.istore X0.here hx rfl (hb hby d5_87) rfl (l' := #[.val (.ref o0), .val (.int p1), .val (.int p2), .val (.int ((own_at cs p1) &&& (255 : Int32))), .val (.int (3 : Int32)), .unset, .unset, .unset, .unset]) rfl ?_
            show Steps p.tables e below (s₁.setTop (mkF m 89 #[.val (.ref o0), .val (.int p1), .val (.int p2), .val (.int ((own_at cs p1) &&& (255 : Int32))), .val (.int (3 : Int32)), .unset, .unset, .unset, .unset] [])) _
            refine XS.iloadN X0.here hx rfl (hb hby d5_89) rfl ?_
            show Steps p.tables e below (s₁.setTop (mkF m 90 #[.val (.ref o0), .val (.int p1), .val (.int p2), .val (.int ((own_at cs p1) &&& (255 : Int32))), .val (.int (3 : Int32)), .unset, .unset, .unset, .unset] [(.int ((own_at cs p1) &&& (255 : Int32)))])) _
            refine XS.bipush X0.here hx rfl (hb hby d5_90) ?_
            show Steps p.tables e below (s₁.setTop (mkF m 92 #[.val (.ref o0), .val (.int p1), .val (.int p2), .val (.int ((own_at cs p1) &&& (255 : Int32))), .val (.int (3 : Int32)), .unset, .unset, .unset, .unset] [(.int (7 : Int32)), (.int ((own_at cs p1) &&& (255 : Int32)))])) _
            refine XS.iand X0.here hx rfl (hb hby d5_92) rfl ?_
            show Steps p.tables e below (s₁.setTop (mkF m 93 #[.val (.ref o0), .val (.int p1), .val (.int p2), .val (.int ((own_at cs p1) &&& (255 : Int32))), .val (.int (3 : Int32)), .unset, .unset, .unset, .unset] [(.int (((own_at cs p1) &&& (255 : Int32)) &&& (7 : Int32)))])) _
            refine XS.istore X0.here hx rfl (hb hby d5_93) rfl (l' := #[.val (.ref o0), .val (.int p1), .val (.int p2), .val (.int ((own_at cs p1) &&& (255 : Int32))), .val (.int (3 : Int32)), .val (.int (((own_at cs p1) &&& (255 : Int32)) &&& (7 : Int32))), .unset, .unset, .unset]) rfl ?_
            show Steps p.tables e below (s₁.setTop (mkF m 95 #[.val (.ref o0), .val (.int p1), .val (.int p2), .val (.int ((own_at cs p1) &&& (255 : Int32))), .val (.int (3 : Int32)), .val (.int (((own_at cs p1) &&& (255 : Int32)) &&& (7 : Int32))), .unset, .unset, .unset] [])) _
            refine X0.ldcInt hx hown (mvT hZ (hw _ (List.mem_of_getElem? (i := 22) rfl))) (g := (mkF m 95 #[.val (.ref o0), .val (.int p1), .val (.int p2), .val (.int ((own_at cs p1) &&& (255 : Int32))), .val (.int (3 : Int32)), .val (.int (((own_at cs p1) &&& (255 : Int32)) &&& (7 : Int32))), .unset, .unset, .unset] [])) rfl (hb hby d5_95) _ ?_
            show Steps p.tables e below (s₁.setTop (mkF m 97 #[.val (.ref o0), .val (.int p1), .val (.int p2), .val (.int ((own_at cs p1) &&& (255 : Int32))), .val (.int (3 : Int32)), .val (.int (((own_at cs p1) &&& (255 : Int32)) &&& (7 : Int32))), .unset, .unset, .unset] [(.int (65536 : Int32))])) _
            refine XS.istore X0.here hx rfl (hb hby d5_97) rfl (l' := #[.val (.ref o0), .val (.int p1), .val (.int p2), .val (.int ((own_at cs p1) &&& (255 : Int32))), .val (.int (3 : Int32)), .val (.int (((own_at cs p1) &&& (255 : Int32)) &&& (7 : Int32))), .val (.int (65536 : Int32)), .unset, .unset]) rfl ?_
            show Steps p.tables e below (s₁.setTop (mkF m 99 #[.val (.ref o0), .val (.int p1), .val (.int p2), .val (.int ((own_at cs p1) &&& (255 : Int32))), .val (.int (3 : Int32)), .val (.int (((own_at cs p1) &&& (255 : Int32)) &&& (7 : Int32))), .val (.int (65536 : Int32)), .unset, .unset] [])) _
            refine XS.goto X0.here hx rfl (pc0 := 99) (pc' := 104) rfl (hb hby d5_99) (by decide) (by decide) ?_
            show Steps p.tables e below (s₁.setTop (mkF m 104 #[.val (.ref o0), .val (.int p1), .val (.int p2), .val (.int ((own_at cs p1) &&& (255 : Int32))), .val (.int (3 : Int32)), .val (.int (((own_at cs p1) &&& (255 : Int32)) &&& (7 : Int32))), .val (.int (65536 : Int32)), .unset, .unset] [])) _
            refine XS.iloadN X0.here hx rfl (hb hby d5_104) rfl ?_
            show Steps p.tables e below (s₁.setTop (mkF m 105 #[.val (.ref o0), .val (.int p1), .val (.int p2), .val (.int ((own_at cs p1) &&& (255 : Int32))), .val (.int (3 : Int32)), .val (.int (((own_at cs p1) &&& (255 : Int32)) &&& (7 : Int32))), .val (.int (65536 : Int32)), .unset, .unset] [(.int p1)])) _
            refine XS.iload X0.here hx rfl (hb hby d5_105) rfl ?_
            show Steps p.tables e below (s₁.setTop (mkF m 107 #[.val (.ref o0), .val (.int p1), .val (.int p2), .val (.int ((own_at cs p1) &&& (255 : Int32))), .val (.int (3 : Int32)), .val (.int (((own_at cs p1) &&& (255 : Int32)) &&& (7 : Int32))), .val (.int (65536 : Int32)), .unset, .unset] [(.int (3 : Int32)), (.int p1)])) _
            refine XS.iadd X0.here hx rfl (hb hby d5_107) rfl ?_
            show Steps p.tables e below (s₁.setTop (mkF m 108 #[.val (.ref o0), .val (.int p1), .val (.int p2), .val (.int ((own_at cs p1) &&& (255 : Int32))), .val (.int (3 : Int32)), .val (.int (((own_at cs p1) &&& (255 : Int32)) &&& (7 : Int32))), .val (.int (65536 : Int32)), .unset, .unset] [(.int (p1 + (3 : Int32)))])) _
            refine XS.iloadN X0.here hx rfl (hb hby d5_108) rfl ?_
            exact k)
          by_cases hc109_40 : (p1 + (3 : Int32)) < p2
          · obtain ⟨cl41, Ar41, q41, S41, N41', H41, G41⟩ := id V_a
            have hin41 : ¬ ((p1 + (1 : Int32)) < 0 ∨ cl41.slots.size ≤ ((p1 + (1 : Int32))).toNatClampNeg) := inb_of S41 (own_inS (n := (3 : Int32)) (k := (1 : Int32)) hi0 hi1 hi2 hc109_40 (by decide) (by decide) (by decide))
            have pre42 : ∀ t, Steps p.tables e below (s₁.setTop (mkF m 134 #[.val (.ref o0), .val (.int p1), .val (.int p2), .val (.int ((own_at cs p1) &&& (255 : Int32))), .val (.int (3 : Int32)), .val (.int (((own_at cs p1) &&& (255 : Int32)) &&& (7 : Int32))), .val (.int (65536 : Int32)), .val (.int ((own_at cs (p1 + (1 : Int32))) &&& (255 : Int32))), .unset] [(.int (128 : Int32)), (.int (((own_at cs (p1 + (1 : Int32))) &&& (255 : Int32)) &&& (192 : Int32)))])) t → Steps p.tables e below (s₁.setTop (entryFrame m #[(.ref o0), (.int p1), (.int p2)] 9)) t := fun t k => pre39 t (by
              show Steps p.tables e below (s₁.setTop (mkF m 109 #[.val (.ref o0), .val (.int p1), .val (.int p2), .val (.int ((own_at cs p1) &&& (255 : Int32))), .val (.int (3 : Int32)), .val (.int (((own_at cs p1) &&& (255 : Int32)) &&& (7 : Int32))), .val (.int (65536 : Int32)), .unset, .unset] [(.int p2), (.int (p1 + (3 : Int32)))])) _
              refine XS.icmpYes X0.here hx rfl (pc0 := 109) (pc' := 114) rfl (hb hby d5_109) rfl (tlt hc109_40).1 (by decide) (by decide) ?_
              show Steps p.tables e below (s₁.setTop (mkF m 114 #[.val (.ref o0), .val (.int p1), .val (.int p2), .val (.int ((own_at cs p1) &&& (255 : Int32))), .val (.int (3 : Int32)), .val (.int (((own_at cs p1) &&& (255 : Int32)) &&& (7 : Int32))), .val (.int (65536 : Int32)), .unset, .unset] [])) _
              refine XS.aloadN X0.here hx rfl (hb hby d5_114) rfl rfl ?_
              show Steps p.tables e below (s₁.setTop (mkF m 115 #[.val (.ref o0), .val (.int p1), .val (.int p2), .val (.int ((own_at cs p1) &&& (255 : Int32))), .val (.int (3 : Int32)), .val (.int (((own_at cs p1) &&& (255 : Int32)) &&& (7 : Int32))), .val (.int (65536 : Int32)), .unset, .unset] [(.ref o0)])) _
              refine XS.iloadN X0.here hx rfl (hb hby d5_115) rfl ?_
              show Steps p.tables e below (s₁.setTop (mkF m 116 #[.val (.ref o0), .val (.int p1), .val (.int p2), .val (.int ((own_at cs p1) &&& (255 : Int32))), .val (.int (3 : Int32)), .val (.int (((own_at cs p1) &&& (255 : Int32)) &&& (7 : Int32))), .val (.int (65536 : Int32)), .unset, .unset] [(.int p1), (.ref o0)])) _
              refine XS.iconst X0.here hx rfl (hb hby d5_116) ?_
              show Steps p.tables e below (s₁.setTop (mkF m 117 #[.val (.ref o0), .val (.int p1), .val (.int p2), .val (.int ((own_at cs p1) &&& (255 : Int32))), .val (.int (3 : Int32)), .val (.int (((own_at cs p1) &&& (255 : Int32)) &&& (7 : Int32))), .val (.int (65536 : Int32)), .unset, .unset] [(.int (1 : Int32)), (.int p1), (.ref o0)])) _
              refine XS.iadd X0.here hx rfl (hb hby d5_117) rfl ?_
              show Steps p.tables e below (s₁.setTop (mkF m 118 #[.val (.ref o0), .val (.int p1), .val (.int p2), .val (.int ((own_at cs p1) &&& (255 : Int32))), .val (.int (3 : Int32)), .val (.int (((own_at cs p1) &&& (255 : Int32)) &&& (7 : Int32))), .val (.int (65536 : Int32)), .unset, .unset] [(.int (p1 + (1 : Int32))), (.ref o0)])) _
              refine X0.baloadBytes hx (j := (p1 + (1 : Int32))) (v := (.int (own_at cs (p1 + (1 : Int32))))) (by rw [e0]; exact Ar41.1) (State.isArrayOf_alike hZ.alike Ar41.2.1) Ar41.2.2 hin41 (H41.at hin41 (own_getD cs _)) (g := (mkF m 118 #[.val (.ref o0), .val (.int p1), .val (.int p2), .val (.int ((own_at cs p1) &&& (255 : Int32))), .val (.int (3 : Int32)), .val (.int (((own_at cs p1) &&& (255 : Int32)) &&& (7 : Int32))), .val (.int (65536 : Int32)), .unset, .unset] [(.int (p1 + (1 : Int32))), (.ref o0)])) rfl rfl (hb hby d5_118) _ ?_
              show Steps p.tables e below (s₁.setTop (mkF m 119 #[.val (.ref o0), .val (.int p1), .val (.int p2), .val (.int ((own_at cs p1) &&& (255 : Int32))), .val (.int (3 : Int32)), .val (.int (((own_at cs p1) &&& (255 : Int32)) &&& (7 : Int32))), .val (.int (65536 : Int32)), .unset, .unset] [(.int (own_at cs (p1 + (1 : Int32))))])) _
              refine XS.sipush X0.here hx rfl (hb hby d5_119) ?_
              show Steps p.tables e below (s₁.setTop (mkF m 122 #[.val (.ref o0), .val (.int p1), .val (.int p2), .val (.int ((own_at cs p1) &&& (255 : Int32))), .val (.int (3 : Int32)), .val (.int (((own_at cs p1) &&& (255 : Int32)) &&& (7 : Int32))), .val (.int (65536 : Int32)), .unset, .unset] [(.int (255 : Int32)), (.int (own_at cs (p1 + (1 : Int32))))])) _
              refine XS.iand X0.here hx rfl (hb hby d5_122) rfl ?_
              show Steps p.tables e below (s₁.setTop (mkF m 123 #[.val (.ref o0), .val (.int p1), .val (.int p2), .val (.int ((own_at cs p1) &&& (255 : Int32))), .val (.int (3 : Int32)), .val (.int (((own_at cs p1) &&& (255 : Int32)) &&& (7 : Int32))), .val (.int (65536 : Int32)), .unset, .unset] [(.int ((own_at cs (p1 + (1 : Int32))) &&& (255 : Int32)))])) _
              refine XS.istore X0.here hx rfl (hb hby d5_123) rfl (l' := #[.val (.ref o0), .val (.int p1), .val (.int p2), .val (.int ((own_at cs p1) &&& (255 : Int32))), .val (.int (3 : Int32)), .val (.int (((own_at cs p1) &&& (255 : Int32)) &&& (7 : Int32))), .val (.int (65536 : Int32)), .val (.int ((own_at cs (p1 + (1 : Int32))) &&& (255 : Int32))), .unset]) rfl ?_
              show Steps p.tables e below (s₁.setTop (mkF m 125 #[.val (.ref o0), .val (.int p1), .val (.int p2), .val (.int ((own_at cs p1) &&& (255 : Int32))), .val (.int (3 : Int32)), .val (.int (((own_at cs p1) &&& (255 : Int32)) &&& (7 : Int32))), .val (.int (65536 : Int32)), .val (.int ((own_at cs (p1 + (1 : Int32))) &&& (255 : Int32))), .unset] [])) _
              refine XS.iload X0.here hx rfl (hb hby d5_125) rfl ?_
              show Steps p.tables e below (s₁.setTop (mkF m 127 #[.val (.ref o0), .val (.int p1), .val (.int p2), .val (.int ((own_at cs p1) &&& (255 : Int32))), .val (.int (3 : Int32)), .val (.int (((own_at cs p1) &&& (255 : Int32)) &&& (7 : Int32))), .val (.int (65536 : Int32)), .val (.int ((own_at cs (p1 + (1 : Int32))) &&& (255 : Int32))), .unset] [(.int ((own_at cs (p1 + (1 : Int32))) &&& (255 : Int32)))])) _
              refine XS.sipush X0.here hx rfl (hb hby d5_127) ?_
              show Steps p.tables e below (s₁.setTop (mkF m 130 #[.val (.ref o0), .val (.int p1), .val (.int p2), .val (.int ((own_at cs p1) &&& (255 : Int32))), .val (.int (3 : Int32)), .val (.int (((own_at cs p1) &&& (255 : Int32)) &&& (7 : Int32))), .val (.int (65536 : Int32)), .val (.int ((own_at cs (p1 + (1 : Int32))) &&& (255 : Int32))), .unset] [(.int (192 : Int32)), (.int ((own_at cs (p1 + (1 : Int32))) &&& (255 : Int32)))])) _
              refine XS.iand X0.here hx rfl (hb hby d5_130) rfl ?_
              show Steps p.tables e below (s₁.setTop (mkF m 131 #[.val (.ref o0), .val (.int p1), .val (.int p2), .val (.int ((own_at cs p1) &&& (255 : Int32))), .val (.int (3 : Int32)), .val (.int (((own_at cs p1) &&& (255 : Int32)) &&& (7 : Int32))), .val (.int (65536 : Int32)), .val (.int ((own_at cs (p1 + (1 : Int32))) &&& (255 : Int32))), .unset] [(.int (((own_at cs (p1 + (1 : Int32))) &&& (255 : Int32)) &&& (192 : Int32)))])) _
              refine XS.sipush X0.here hx rfl (hb hby d5_131) ?_
              exact k)
            by_cases hc134_43 : (((own_at cs (p1 + (1 : Int32))) &&& (255 : Int32)) &&& (192 : Int32)) = (128 : Int32)
            · obtain ⟨cl44, Ar44, q44, S44, N44', H44, G44⟩ := id V_a
              have hin44 : ¬ ((p1 + (2 : Int32)) < 0 ∨ cl44.slots.size ≤ ((p1 + (2 : Int32))).toNatClampNeg) := inb_of S44 (own_inS (n := (3 : Int32)) (k := (2 : Int32)) hi0 hi1 hi2 hc109_40 (by decide) (by decide) (by decide))
              have pre45 : ∀ t, Steps p.tables e below (s₁.setTop (mkF m 178 #[.val (.ref o0), .val (.int p1), .val (.int p2), .val (.int ((own_at cs p1) &&& (255 : Int32))), .val (.int (3 : Int32)), .val (.int (((((own_at cs p1) &&& (255 : Int32)) &&& (7 : Int32)) <<< ((6 : Int32) &&& 31)) ||| (((own_at cs (p1 + (1 : Int32))) &&& (255 : Int32)) &&& (63 : Int32)))), .val (.int (65536 : Int32)), .val (.int ((own_at cs (p1 + (1 : Int32))) &&& (255 : Int32))), .val (.int ((own_at cs (p1 + (2 : Int32))) &&& (255 : Int32)))] [(.int (128 : Int32)), (.int (((own_at cs (p1 + (2 : Int32))) &&& (255 : Int32)) &&& (192 : Int32)))])) t → Steps p.tables e below (s₁.setTop (entryFrame m #[(.ref o0), (.int p1), (.int p2)] 9)) t := fun t k => pre42 t (by
                show Steps p.tables e below (s₁.setTop (mkF m 134 #[.val (.ref o0), .val (.int p1), .val (.int p2), .val (.int ((own_at cs p1) &&& (255 : Int32))), .val (.int (3 : Int32)), .val (.int (((own_at cs p1) &&& (255 : Int32)) &&& (7 : Int32))), .val (.int (65536 : Int32)), .val (.int ((own_at cs (p1 + (1 : Int32))) &&& (255 : Int32))), .unset] [(.int (128 : Int32)), (.int (((own_at cs (p1 + (1 : Int32))) &&& (255 : Int32)) &&& (192 : Int32)))])) _
                refine XS.icmpYes X0.here hx rfl (pc0 := 134) (pc' := 139) rfl (hb hby d5_134) rfl (teq hc134_43).1 (by decide) (by decide) ?_
                show Steps p.tables e below (s₁.setTop (mkF m 139 #[.val (.ref o0), .val (.int p1), .val (.int p2), .val (.int ((own_at cs p1) &&& (255 : Int32))), .val (.int (3 : Int32)), .val (.int (((own_at cs p1) &&& (255 : Int32)) &&& (7 : Int32))), .val (.int (65536 : Int32)), .val (.int ((own_at cs (p1 + (1 : Int32))) &&& (255 : Int32))), .unset] [])) _
                refine XS.iload X0.here hx rfl (hb hby d5_139) rfl ?_
                show Steps p.tables e below (s₁.setTop (mkF m 141 #[.val (.ref o0), .val (.int p1), .val (.int p2), .val (.int ((own_at cs p1) &&& (255 : Int32))), .val (.int (3 : Int32)), .val (.int (((own_at cs p1) &&& (255 : Int32)) &&& (7 : Int32))), .val (.int (65536 : Int32)), .val (.int ((own_at cs (p1 + (1 : Int32))) &&& (255 : Int32))), .unset] [(.int (((own_at cs p1) &&& (255 : Int32)) &&& (7 : Int32)))])) _
                refine XS.bipush X0.here hx rfl (hb hby d5_141) ?_
                show Steps p.tables e below (s₁.setTop (mkF m 143 #[.val (.ref o0), .val (.int p1), .val (.int p2), .val (.int ((own_at cs p1) &&& (255 : Int32))), .val (.int (3 : Int32)), .val (.int (((own_at cs p1) &&& (255 : Int32)) &&& (7 : Int32))), .val (.int (65536 : Int32)), .val (.int ((own_at cs (p1 + (1 : Int32))) &&& (255 : Int32))), .unset] [(.int (6 : Int32)), (.int (((own_at cs p1) &&& (255 : Int32)) &&& (7 : Int32)))])) _
                refine XS.ishl X0.here hx rfl (hb hby d5_143) rfl ?_
                show Steps p.tables e below (s₁.setTop (mkF m 144 #[.val (.ref o0), .val (.int p1), .val (.int p2), .val (.int ((own_at cs p1) &&& (255 : Int32))), .val (.int (3 : Int32)), .val (.int (((own_at cs p1) &&& (255 : Int32)) &&& (7 : Int32))), .val (.int (65536 : Int32)), .val (.int ((own_at cs (p1 + (1 : Int32))) &&& (255 : Int32))), .unset] [(.int ((((own_at cs p1) &&& (255 : Int32)) &&& (7 : Int32)) <<< ((6 : Int32) &&& 31)))])) _
                refine XS.iload X0.here hx rfl (hb hby d5_144) rfl ?_
                show Steps p.tables e below (s₁.setTop (mkF m 146 #[.val (.ref o0), .val (.int p1), .val (.int p2), .val (.int ((own_at cs p1) &&& (255 : Int32))), .val (.int (3 : Int32)), .val (.int (((own_at cs p1) &&& (255 : Int32)) &&& (7 : Int32))), .val (.int (65536 : Int32)), .val (.int ((own_at cs (p1 + (1 : Int32))) &&& (255 : Int32))), .unset] [(.int ((own_at cs (p1 + (1 : Int32))) &&& (255 : Int32))), (.int ((((own_at cs p1) &&& (255 : Int32)) &&& (7 : Int32)) <<< ((6 : Int32) &&& 31)))])) _
                refine XS.bipush X0.here hx rfl (hb hby d5_146) ?_
                show Steps p.tables e below (s₁.setTop (mkF m 148 #[.val (.ref o0), .val (.int p1), .val (.int p2), .val (.int ((own_at cs p1) &&& (255 : Int32))), .val (.int (3 : Int32)), .val (.int (((own_at cs p1) &&& (255 : Int32)) &&& (7 : Int32))), .val (.int (65536 : Int32)), .val (.int ((own_at cs (p1 + (1 : Int32))) &&& (255 : Int32))), .unset] [(.int (63 : Int32)), (.int ((own_at cs (p1 + (1 : Int32))) &&& (255 : Int32))), (.int ((((own_at cs p1) &&& (255 : Int32)) &&& (7 : Int32)) <<< ((6 : Int32) &&& 31)))])) _
                refine XS.iand X0.here hx rfl (hb hby d5_148) rfl ?_
                show Steps p.tables e below (s₁.setTop (mkF m 149 #[.val (.ref o0), .val (.int p1), .val (.int p2), .val (.int ((own_at cs p1) &&& (255 : Int32))), .val (.int (3 : Int32)), .val (.int (((own_at cs p1) &&& (255 : Int32)) &&& (7 : Int32))), .val (.int (65536 : Int32)), .val (.int ((own_at cs (p1 + (1 : Int32))) &&& (255 : Int32))), .unset] [(.int (((own_at cs (p1 + (1 : Int32))) &&& (255 : Int32)) &&& (63 : Int32))), (.int ((((own_at cs p1) &&& (255 : Int32)) &&& (7 : Int32)) <<< ((6 : Int32) &&& 31)))])) _
                refine XS.ior X0.here hx rfl (hb hby d5_149) rfl ?_
                show Steps p.tables e below (s₁.setTop (mkF m 150 #[.val (.ref o0), .val (.int p1), .val (.int p2), .val (.int ((own_at cs p1) &&& (255 : Int32))), .val (.int (3 : Int32)), .val (.int (((own_at cs p1) &&& (255 : Int32)) &&& (7 : Int32))), .val (.int (65536 : Int32)), .val (.int ((own_at cs (p1 + (1 : Int32))) &&& (255 : Int32))), .unset] [(.int (((((own_at cs p1) &&& (255 : Int32)) &&& (7 : Int32)) <<< ((6 : Int32) &&& 31)) ||| (((own_at cs (p1 + (1 : Int32))) &&& (255 : Int32)) &&& (63 : Int32))))])) _
                refine XS.istore X0.here hx rfl (hb hby d5_150) rfl (l' := #[.val (.ref o0), .val (.int p1), .val (.int p2), .val (.int ((own_at cs p1) &&& (255 : Int32))), .val (.int (3 : Int32)), .val (.int (((((own_at cs p1) &&& (255 : Int32)) &&& (7 : Int32)) <<< ((6 : Int32) &&& 31)) ||| (((own_at cs (p1 + (1 : Int32))) &&& (255 : Int32)) &&& (63 : Int32)))), .val (.int (65536 : Int32)), .val (.int ((own_at cs (p1 + (1 : Int32))) &&& (255 : Int32))), .unset]) rfl ?_
                show Steps p.tables e below (s₁.setTop (mkF m 152 #[.val (.ref o0), .val (.int p1), .val (.int p2), .val (.int ((own_at cs p1) &&& (255 : Int32))), .val (.int (3 : Int32)), .val (.int (((((own_at cs p1) &&& (255 : Int32)) &&& (7 : Int32)) <<< ((6 : Int32) &&& 31)) ||| (((own_at cs (p1 + (1 : Int32))) &&& (255 : Int32)) &&& (63 : Int32)))), .val (.int (65536 : Int32)), .val (.int ((own_at cs (p1 + (1 : Int32))) &&& (255 : Int32))), .unset] [])) _
                refine XS.iload X0.here hx rfl (hb hby d5_152) rfl ?_
                show Steps p.tables e below (s₁.setTop (mkF m 154 #[.val (.ref o0), .val (.int p1), .val (.int p2), .val (.int ((own_at cs p1) &&& (255 : Int32))), .val (.int (3 : Int32)), .val (.int (((((own_at cs p1) &&& (255 : Int32)) &&& (7 : Int32)) <<< ((6 : Int32) &&& 31)) ||| (((own_at cs (p1 + (1 : Int32))) &&& (255 : Int32)) &&& (63 : Int32)))), .val (.int (65536 : Int32)), .val (.int ((own_at cs (p1 + (1 : Int32))) &&& (255 : Int32))), .unset] [(.int (3 : Int32))])) _
                refine XS.iconst X0.here hx rfl (hb hby d5_154) ?_
                show Steps p.tables e below (s₁.setTop (mkF m 155 #[.val (.ref o0), .val (.int p1), .val (.int p2), .val (.int ((own_at cs p1) &&& (255 : Int32))), .val (.int (3 : Int32)), .val (.int (((((own_at cs p1) &&& (255 : Int32)) &&& (7 : Int32)) <<< ((6 : Int32) &&& 31)) ||| (((own_at cs (p1 + (1 : Int32))) &&& (255 : Int32)) &&& (63 : Int32)))), .val (.int (65536 : Int32)), .val (.int ((own_at cs (p1 + (1 : Int32))) &&& (255 : Int32))), .unset] [(.int (2 : Int32)), (.int (3 : Int32))])) _
                refine XS.icmpNo X0.here hx rfl (hb hby d5_155) rfl (flt ((by decide) : ¬ ((3 : Int32) < (2 : Int32)))).1 ?_
                show Steps p.tables e below (s₁.setTop (mkF m 158 #[.val (.ref o0), .val (.int p1), .val (.int p2), .val (.int ((own_at cs p1) &&& (255 : Int32))), .val (.int (3 : Int32)), .val (.int (((((own_at cs p1) &&& (255 : Int32)) &&& (7 : Int32)) <<< ((6 : Int32) &&& 31)) ||| (((own_at cs (p1 + (1 : Int32))) &&& (255 : Int32)) &&& (63 : Int32)))), .val (.int (65536 : Int32)), .val (.int ((own_at cs (p1 + (1 : Int32))) &&& (255 : Int32))), .unset] [])) _
                refine XS.aloadN X0.here hx rfl (hb hby d5_158) rfl rfl ?_
                show Steps p.tables e below (s₁.setTop (mkF m 159 #[.val (.ref o0), .val (.int p1), .val (.int p2), .val (.int ((own_at cs p1) &&& (255 : Int32))), .val (.int (3 : Int32)), .val (.int (((((own_at cs p1) &&& (255 : Int32)) &&& (7 : Int32)) <<< ((6 : Int32) &&& 31)) ||| (((own_at cs (p1 + (1 : Int32))) &&& (255 : Int32)) &&& (63 : Int32)))), .val (.int (65536 : Int32)), .val (.int ((own_at cs (p1 + (1 : Int32))) &&& (255 : Int32))), .unset] [(.ref o0)])) _
                refine XS.iloadN X0.here hx rfl (hb hby d5_159) rfl ?_
                show Steps p.tables e below (s₁.setTop (mkF m 160 #[.val (.ref o0), .val (.int p1), .val (.int p2), .val (.int ((own_at cs p1) &&& (255 : Int32))), .val (.int (3 : Int32)), .val (.int (((((own_at cs p1) &&& (255 : Int32)) &&& (7 : Int32)) <<< ((6 : Int32) &&& 31)) ||| (((own_at cs (p1 + (1 : Int32))) &&& (255 : Int32)) &&& (63 : Int32)))), .val (.int (65536 : Int32)), .val (.int ((own_at cs (p1 + (1 : Int32))) &&& (255 : Int32))), .unset] [(.int p1), (.ref o0)])) _
                refine XS.iconst X0.here hx rfl (hb hby d5_160) ?_
                show Steps p.tables e below (s₁.setTop (mkF m 161 #[.val (.ref o0), .val (.int p1), .val (.int p2), .val (.int ((own_at cs p1) &&& (255 : Int32))), .val (.int (3 : Int32)), .val (.int (((((own_at cs p1) &&& (255 : Int32)) &&& (7 : Int32)) <<< ((6 : Int32) &&& 31)) ||| (((own_at cs (p1 + (1 : Int32))) &&& (255 : Int32)) &&& (63 : Int32)))), .val (.int (65536 : Int32)), .val (.int ((own_at cs (p1 + (1 : Int32))) &&& (255 : Int32))), .unset] [(.int (2 : Int32)), (.int p1), (.ref o0)])) _
                refine XS.iadd X0.here hx rfl (hb hby d5_161) rfl ?_
                show Steps p.tables e below (s₁.setTop (mkF m 162 #[.val (.ref o0), .val (.int p1), .val (.int p2), .val (.int ((own_at cs p1) &&& (255 : Int32))), .val (.int (3 : Int32)), .val (.int (((((own_at cs p1) &&& (255 : Int32)) &&& (7 : Int32)) <<< ((6 : Int32) &&& 31)) ||| (((own_at cs (p1 + (1 : Int32))) &&& (255 : Int32)) &&& (63 : Int32)))), .val (.int (65536 : Int32)), .val (.int ((own_at cs (p1 + (1 : Int32))) &&& (255 : Int32))), .unset] [(.int (p1 + (2 : Int32))), (.ref o0)])) _
                refine X0.baloadBytes hx (j := (p1 + (2 : Int32))) (v := (.int (own_at cs (p1 + (2 : Int32))))) (by rw [e0]; exact Ar44.1) (State.isArrayOf_alike hZ.alike Ar44.2.1) Ar44.2.2 hin44 (H44.at hin44 (own_getD cs _)) (g := (mkF m 162 #[.val (.ref o0), .val (.int p1), .val (.int p2), .val (.int ((own_at cs p1) &&& (255 : Int32))), .val (.int (3 : Int32)), .val (.int (((((own_at cs p1) &&& (255 : Int32)) &&& (7 : Int32)) <<< ((6 : Int32) &&& 31)) ||| (((own_at cs (p1 + (1 : Int32))) &&& (255 : Int32)) &&& (63 : Int32)))), .val (.int (65536 : Int32)), .val (.int ((own_at cs (p1 + (1 : Int32))) &&& (255 : Int32))), .unset] [(.int (p1 + (2 : Int32))), (.ref o0)])) rfl rfl (hb hby d5_162) _ ?_
                show Steps p.tables e below (s₁.setTop (mkF m 163 #[.val (.ref o0), .val (.int p1), .val (.int p2), .val (.int ((own_at cs p1) &&& (255 : Int32))), .val (.int (3 : Int32)), .val (.int (((((own_at cs p1) &&& (255 : Int32)) &&& (7 : Int32)) <<< ((6 : Int32) &&& 31)) ||| (((own_at cs (p1 + (1 : Int32))) &&& (255 : Int32)) &&& (63 : Int32)))), .val (.int (65536 : Int32)), .val (.int ((own_at cs (p1 + (1 : Int32))) &&& (255 : Int32))), .unset] [(.int (own_at cs (p1 + (2 : Int32))))])) _
                refine XS.sipush X0.here hx rfl (hb hby d5_163) ?_
                show Steps p.tables e below (s₁.setTop (mkF m 166 #[.val (.ref o0), .val (.int p1), .val (.int p2), .val (.int ((own_at cs p1) &&& (255 : Int32))), .val (.int (3 : Int32)), .val (.int (((((own_at cs p1) &&& (255 : Int32)) &&& (7 : Int32)) <<< ((6 : Int32) &&& 31)) ||| (((own_at cs (p1 + (1 : Int32))) &&& (255 : Int32)) &&& (63 : Int32)))), .val (.int (65536 : Int32)), .val (.int ((own_at cs (p1 + (1 : Int32))) &&& (255 : Int32))), .unset] [(.int (255 : Int32)), (.int (own_at cs (p1 + (2 : Int32))))])) _
                refine XS.iand X0.here hx rfl (hb hby d5_166) rfl ?_
                show Steps p.tables e below (s₁.setTop (mkF m 167 #[.val (.ref o0), .val (.int p1), .val (.int p2), .val (.int ((own_at cs p1) &&& (255 : Int32))), .val (.int (3 : Int32)), .val (.int (((((own_at cs p1) &&& (255 : Int32)) &&& (7 : Int32)) <<< ((6 : Int32) &&& 31)) ||| (((own_at cs (p1 + (1 : Int32))) &&& (255 : Int32)) &&& (63 : Int32)))), .val (.int (65536 : Int32)), .val (.int ((own_at cs (p1 + (1 : Int32))) &&& (255 : Int32))), .unset] [(.int ((own_at cs (p1 + (2 : Int32))) &&& (255 : Int32)))])) _
                refine XS.istore X0.here hx rfl (hb hby d5_167) rfl (l' := #[.val (.ref o0), .val (.int p1), .val (.int p2), .val (.int ((own_at cs p1) &&& (255 : Int32))), .val (.int (3 : Int32)), .val (.int (((((own_at cs p1) &&& (255 : Int32)) &&& (7 : Int32)) <<< ((6 : Int32) &&& 31)) ||| (((own_at cs (p1 + (1 : Int32))) &&& (255 : Int32)) &&& (63 : Int32)))), .val (.int (65536 : Int32)), .val (.int ((own_at cs (p1 + (1 : Int32))) &&& (255 : Int32))), .val (.int ((own_at cs (p1 + (2 : Int32))) &&& (255 : Int32)))]) rfl ?_
                show Steps p.tables e below (s₁.setTop (mkF m 169 #[.val (.ref o0), .val (.int p1), .val (.int p2), .val (.int ((own_at cs p1) &&& (255 : Int32))), .val (.int (3 : Int32)), .val (.int (((((own_at cs p1) &&& (255 : Int32)) &&& (7 : Int32)) <<< ((6 : Int32) &&& 31)) ||| (((own_at cs (p1 + (1 : Int32))) &&& (255 : Int32)) &&& (63 : Int32)))), .val (.int (65536 : Int32)), .val (.int ((own_at cs (p1 + (1 : Int32))) &&& (255 : Int32))), .val (.int ((own_at cs (p1 + (2 : Int32))) &&& (255 : Int32)))] [])) _
                refine XS.iload X0.here hx rfl (hb hby d5_169) rfl ?_
                show Steps p.tables e below (s₁.setTop (mkF m 171 #[.val (.ref o0), .val (.int p1), .val (.int p2), .val (.int ((own_at cs p1) &&& (255 : Int32))), .val (.int (3 : Int32)), .val (.int (((((own_at cs p1) &&& (255 : Int32)) &&& (7 : Int32)) <<< ((6 : Int32) &&& 31)) ||| (((own_at cs (p1 + (1 : Int32))) &&& (255 : Int32)) &&& (63 : Int32)))), .val (.int (65536 : Int32)), .val (.int ((own_at cs (p1 + (1 : Int32))) &&& (255 : Int32))), .val (.int ((own_at cs (p1 + (2 : Int32))) &&& (255 : Int32)))] [(.int ((own_at cs (p1 + (2 : Int32))) &&& (255 : Int32)))])) _
                refine XS.sipush X0.here hx rfl (hb hby d5_171) ?_
                show Steps p.tables e below (s₁.setTop (mkF m 174 #[.val (.ref o0), .val (.int p1), .val (.int p2), .val (.int ((own_at cs p1) &&& (255 : Int32))), .val (.int (3 : Int32)), .val (.int (((((own_at cs p1) &&& (255 : Int32)) &&& (7 : Int32)) <<< ((6 : Int32) &&& 31)) ||| (((own_at cs (p1 + (1 : Int32))) &&& (255 : Int32)) &&& (63 : Int32)))), .val (.int (65536 : Int32)), .val (.int ((own_at cs (p1 + (1 : Int32))) &&& (255 : Int32))), .val (.int ((own_at cs (p1 + (2 : Int32))) &&& (255 : Int32)))] [(.int (192 : Int32)), (.int ((own_at cs (p1 + (2 : Int32))) &&& (255 : Int32)))])) _
                refine XS.iand X0.here hx rfl (hb hby d5_174) rfl ?_
                show Steps p.tables e below (s₁.setTop (mkF m 175 #[.val (.ref o0), .val (.int p1), .val (.int p2), .val (.int ((own_at cs p1) &&& (255 : Int32))), .val (.int (3 : Int32)), .val (.int (((((own_at cs p1) &&& (255 : Int32)) &&& (7 : Int32)) <<< ((6 : Int32) &&& 31)) ||| (((own_at cs (p1 + (1 : Int32))) &&& (255 : Int32)) &&& (63 : Int32)))), .val (.int (65536 : Int32)), .val (.int ((own_at cs (p1 + (1 : Int32))) &&& (255 : Int32))), .val (.int ((own_at cs (p1 + (2 : Int32))) &&& (255 : Int32)))] [(.int (((own_at cs (p1 + (2 : Int32))) &&& (255 : Int32)) &&& (192 : Int32)))])) _
                refine XS.sipush X0.here hx rfl (hb hby d5_175) ?_
                exact k)
              by_cases hc178_46 : (((own_at cs (p1 + (2 : Int32))) &&& (255 : Int32)) &&& (192 : Int32)) = (128 : Int32)
              · obtain ⟨cl47, Ar47, q47, S47, N47', H47, G47⟩ := id V_a
                have hin47 : ¬ ((p1 + (3 : Int32)) < 0 ∨ cl47.slots.size ≤ ((p1 + (3 : Int32))).toNatClampNeg) := inb_of S47 (own_inS (n := (3 : Int32)) (k := (3 : Int32)) hi0 hi1 hi2 hc109_40 (by decide) (by decide) (by decide))
                have pre48 : ∀ t, Steps p.tables e below (s₁.setTop (mkF m 222 #[.val (.ref o0), .val (.int p1), .val (.int p2), .val (.int ((own_at cs p1) &&& (255 : Int32))), .val (.int (3 : Int32)), .val (.int (((((((own_at cs p1) &&& (255 : Int32)) &&& (7 : Int32)) <<< ((6 : Int32) &&& 31)) ||| (((own_at cs (p1 + (1 : Int32))) &&& (255 : Int32)) &&& (63 : Int32))) <<< ((6 : Int32) &&& 31)) ||| (((own_at cs (p1 + (2 : Int32))) &&& (255 : Int32)) &&& (63 : Int32)))), .val (.int (65536 : Int32)), .val (.int ((own_at cs (p1 + (1 : Int32))) &&& (255 : Int32))), .val (.int ((own_at cs (p1 + (3 : Int32))) &&& (255 : Int32)))] [(.int (128 : Int32)), (.int (((own_at cs (p1 + (3 : Int32))) &&& (255 : Int32)) &&& (192 : Int32)))])) t → Steps p.tables e below (s₁.setTop (entryFrame m #[(.ref o0), (.int p1), (.int p2)] 9)) t := fun t k => pre45 t (by
                  show Steps p.tables e below (s₁.setTop (mkF m 178 #[.val (.ref o0), .val (.int p1), .val (.int p2), .val (.int ((own_at cs p1) &&& (255 : Int32))), .val (.int (3 : Int32)), .val (.int (((((own_at cs p1) &&& (255 : Int32)) &&& (7 : Int32)) <<< ((6 : Int32) &&& 31)) ||| (((own_at cs (p1 + (1 : Int32))) &&& (255 : Int32)) &&& (63 : Int32)))), .val (.int (65536 : Int32)), .val (.int ((own_at cs (p1 + (1 : Int32))) &&& (255 : Int32))), .val (.int ((own_at cs (p1 + (2 : Int32))) &&& (255 : Int32)))] [(.int (128 : Int32)), (.int (((own_at cs (p1 + (2 : Int32))) &&& (255 : Int32)) &&& (192 : Int32)))])) _
                  refine XS.icmpYes X0.here hx rfl (pc0 := 178) (pc' := 183) rfl (hb hby d5_178) rfl (teq hc178_46).1 (by decide) (by decide) ?_
                  show Steps p.tables e below (s₁.setTop (mkF m 183 #[.val (.ref o0), .val (.int p1), .val (.int p2), .val (.int ((own_at cs p1) &&& (255 : Int32))), .val (.int (3 : Int32)), .val (.int (((((own_at cs p1) &&& (255 : Int32)) &&& (7 : Int32)) <<< ((6 : Int32) &&& 31)) ||| (((own_at cs (p1 + (1 : Int32))) &&& (255 : Int32)) &&& (63 : Int32)))), .val (.int (65536 : Int32)), .val (.int ((own_at cs (p1 + (1 : Int32))) &&& (255 : Int32))), .val (.int ((own_at cs (p1 + (2 : Int32))) &&& (255 : Int32)))] [])) _
                  refine XS.iload X0.here hx rfl (hb hby d5_183) rfl ?_
                  show Steps p.tables e below (s₁.setTop (mkF m 185 #[.val (.ref o0), .val (.int p1), .val (.int p2), .val (.int ((own_at cs p1) &&& (255 : Int32))), .val (.int (3 : Int32)), .val (.int (((((own_at cs p1) &&& (255 : Int32)) &&& (7 : Int32)) <<< ((6 : Int32) &&& 31)) ||| (((own_at cs (p1 + (1 : Int32))) &&& (255 : Int32)) &&& (63 : Int32)))), .val (.int (65536 : Int32)), .val (.int ((own_at cs (p1 + (1 : Int32))) &&& (255 : Int32))), .val (.int ((own_at cs (p1 + (2 : Int32))) &&& (255 : Int32)))] [(.int (((((own_at cs p1) &&& (255 : Int32)) &&& (7 : Int32)) <<< ((6 : Int32) &&& 31)) ||| (((own_at cs (p1 + (1 : Int32))) &&& (255 : Int32)) &&& (63 : Int32))))])) _
                  refine XS.bipush X0.here hx rfl (hb hby d5_185) ?_
                  show Steps p.tables e below (s₁.setTop (mkF m 187 #[.val (.ref o0), .val (.int p1), .val (.int p2), .val (.int ((own_at cs p1) &&& (255 : Int32))), .val (.int (3 : Int32)), .val (.int (((((own_at cs p1) &&& (255 : Int32)) &&& (7 : Int32)) <<< ((6 : Int32) &&& 31)) ||| (((own_at cs (p1 + (1 : Int32))) &&& (255 : Int32)) &&& (63 : Int32)))), .val (.int (65536 : Int32)), .val (.int ((own_at cs (p1 + (1 : Int32))) &&& (255 : Int32))), .val (.int ((own_at cs (p1 + (2 : Int32))) &&& (255 : Int32)))] [(.int (6 : Int32)), (.int (((((own_at cs p1) &&& (255 : Int32)) &&& (7 : Int32)) <<< ((6 : Int32) &&& 31)) ||| (((own_at cs (p1 + (1 : Int32))) &&& (255 : Int32)) &&& (63 : Int32))))])) _
                  refine XS.ishl X0.here hx rfl (hb hby d5_187) rfl ?_
                  show Steps p.tables e below (s₁.setTop (mkF m 188 #[.val (.ref o0), .val (.int p1), .val (.int p2), .val (.int ((own_at cs p1) &&& (255 : Int32))), .val (.int (3 : Int32)), .val (.int (((((own_at cs p1) &&& (255 : Int32)) &&& (7 : Int32)) <<< ((6 : Int32) &&& 31)) ||| (((own_at cs (p1 + (1 : Int32))) &&& (255 : Int32)) &&& (63 : Int32)))), .val (.int (65536 : Int32)), .val (.int ((own_at cs (p1 + (1 : Int32))) &&& (255 : Int32))), .val (.int ((own_at cs (p1 + (2 : Int32))) &&& (255 : Int32)))] [(.int ((((((own_at cs p1) &&& (255 : Int32)) &&& (7 : Int32)) <<< ((6 : Int32) &&& 31)) ||| (((own_at cs (p1 + (1 : Int32))) &&& (255 : Int32)) &&& (63 : Int32))) <<< ((6 : Int32) &&& 31)))])) _
                  refine XS.iload X0.here hx rfl (hb hby d5_188) rfl ?_
                  show Steps p.tables e below (s₁.setTop (mkF m 190 #[.val (.ref o0), .val (.int p1), .val (.int p2), .val (.int ((own_at cs p1) &&& (255 : Int32))), .val (.int (3 : Int32)), .val (.int (((((own_at cs p1) &&& (255 : Int32)) &&& (7 : Int32)) <<< ((6 : Int32) &&& 31)) ||| (((own_at cs (p1 + (1 : Int32))) &&& (255 : Int32)) &&& (63 : Int32)))), .val (.int (65536 : Int32)), .val (.int ((own_at cs (p1 + (1 : Int32))) &&& (255 : Int32))), .val (.int ((own_at cs (p1 + (2 : Int32))) &&& (255 : Int32)))] [(.int ((own_at cs (p1 + (2 : Int32))) &&& (255 : Int32))), (.int ((((((own_at cs p1) &&& (255 : Int32)) &&& (7 : Int32)) <<< ((6 : Int32) &&& 31)) ||| (((own_at cs (p1 + (1 : Int32))) &&& (255 : Int32)) &&& (63 : Int32))) <<< ((6 : Int32) &&& 31)))])) _
                  refine XS.bipush X0.here hx rfl (hb hby d5_190) ?_
                  show Steps p.tables e below (s₁.setTop (mkF m 192 #[.val (.ref o0), .val (.int p1), .val (.int p2), .val (.int ((own_at cs p1) &&& (255 : Int32))), .val (.int (3 : Int32)), .val (.int (((((own_at cs p1) &&& (255 : Int32)) &&& (7 : Int32)) <<< ((6 : Int32) &&& 31)) ||| (((own_at cs (p1 + (1 : Int32))) &&& (255 : Int32)) &&& (63 : Int32)))), .val (.int (65536 : Int32)), .val (.int ((own_at cs (p1 + (1 : Int32))) &&& (255 : Int32))), .val (.int ((own_at cs (p1 + (2 : Int32))) &&& (255 : Int32)))] [(.int (63 : Int32)), (.int ((own_at cs (p1 + (2 : Int32))) &&& (255 : Int32))), (.int ((((((own_at cs p1) &&& (255 : Int32)) &&& (7 : Int32)) <<< ((6 : Int32) &&& 31)) ||| (((own_at cs (p1 + (1 : Int32))) &&& (255 : Int32)) &&& (63 : Int32))) <<< ((6 : Int32) &&& 31)))])) _
                  refine XS.iand X0.here hx rfl (hb hby d5_192) rfl ?_
                  show Steps p.tables e below (s₁.setTop (mkF m 193 #[.val (.ref o0), .val (.int p1), .val (.int p2), .val (.int ((own_at cs p1) &&& (255 : Int32))), .val (.int (3 : Int32)), .val (.int (((((own_at cs p1) &&& (255 : Int32)) &&& (7 : Int32)) <<< ((6 : Int32) &&& 31)) ||| (((own_at cs (p1 + (1 : Int32))) &&& (255 : Int32)) &&& (63 : Int32)))), .val (.int (65536 : Int32)), .val (.int ((own_at cs (p1 + (1 : Int32))) &&& (255 : Int32))), .val (.int ((own_at cs (p1 + (2 : Int32))) &&& (255 : Int32)))] [(.int (((own_at cs (p1 + (2 : Int32))) &&& (255 : Int32)) &&& (63 : Int32))), (.int ((((((own_at cs p1) &&& (255 : Int32)) &&& (7 : Int32)) <<< ((6 : Int32) &&& 31)) ||| (((own_at cs (p1 + (1 : Int32))) &&& (255 : Int32)) &&& (63 : Int32))) <<< ((6 : Int32) &&& 31)))])) _
                  refine XS.ior X0.here hx rfl (hb hby d5_193) rfl ?_
                  show Steps p.tables e below (s₁.setTop (mkF m 194 #[.val (.ref o0), .val (.int p1), .val (.int p2), .val (.int ((own_at cs p1) &&& (255 : Int32))), .val (.int (3 : Int32)), .val (.int (((((own_at cs p1) &&& (255 : Int32)) &&& (7 : Int32)) <<< ((6 : Int32) &&& 31)) ||| (((own_at cs (p1 + (1 : Int32))) &&& (255 : Int32)) &&& (63 : Int32)))), .val (.int (65536 : Int32)), .val (.int ((own_at cs (p1 + (1 : Int32))) &&& (255 : Int32))), .val (.int ((own_at cs (p1 + (2 : Int32))) &&& (255 : Int32)))] [(.int (((((((own_at cs p1) &&& (255 : Int32)) &&& (7 : Int32)) <<< ((6 : Int32) &&& 31)) ||| (((own_at cs (p1 + (1 : Int32))) &&& (255 : Int32)) &&& (63 : Int32))) <<< ((6 : Int32) &&& 31)) ||| (((own_at cs (p1 + (2 : Int32))) &&& (255 : Int32)) &&& (63 : Int32))))])) _
                  refine XS.istore X0.here hx rfl (hb hby d5_194) rfl (l' := #[.val (.ref o0), .val (.int p1), .val (.int p2), .val (.int ((own_at cs p1) &&& (255 : Int32))), .val (.int (3 : Int32)), .val (.int (((((((own_at cs p1) &&& (255 : Int32)) &&& (7 : Int32)) <<< ((6 : Int32) &&& 31)) ||| (((own_at cs (p1 + (1 : Int32))) &&& (255 : Int32)) &&& (63 : Int32))) <<< ((6 : Int32) &&& 31)) ||| (((own_at cs (p1 + (2 : Int32))) &&& (255 : Int32)) &&& (63 : Int32)))), .val (.int (65536 : Int32)), .val (.int ((own_at cs (p1 + (1 : Int32))) &&& (255 : Int32))), .val (.int ((own_at cs (p1 + (2 : Int32))) &&& (255 : Int32)))]) rfl ?_
                  show Steps p.tables e below (s₁.setTop (mkF m 196 #[.val (.ref o0), .val (.int p1), .val (.int p2), .val (.int ((own_at cs p1) &&& (255 : Int32))), .val (.int (3 : Int32)), .val (.int (((((((own_at cs p1) &&& (255 : Int32)) &&& (7 : Int32)) <<< ((6 : Int32) &&& 31)) ||| (((own_at cs (p1 + (1 : Int32))) &&& (255 : Int32)) &&& (63 : Int32))) <<< ((6 : Int32) &&& 31)) ||| (((own_at cs (p1 + (2 : Int32))) &&& (255 : Int32)) &&& (63 : Int32)))), .val (.int (65536 : Int32)), .val (.int ((own_at cs (p1 + (1 : Int32))) &&& (255 : Int32))), .val (.int ((own_at cs (p1 + (2 : Int32))) &&& (255 : Int32)))] [])) _
                  refine XS.iload X0.here hx rfl (hb hby d5_196) rfl ?_
                  show Steps p.tables e below (s₁.setTop (mkF m 198 #[.val (.ref o0), .val (.int p1), .val (.int p2), .val (.int ((own_at cs p1) &&& (255 : Int32))), .val (.int (3 : Int32)), .val (.int (((((((own_at cs p1) &&& (255 : Int32)) &&& (7 : Int32)) <<< ((6 : Int32) &&& 31)) ||| (((own_at cs (p1 + (1 : Int32))) &&& (255 : Int32)) &&& (63 : Int32))) <<< ((6 : Int32) &&& 31)) ||| (((own_at cs (p1 + (2 : Int32))) &&& (255 : Int32)) &&& (63 : Int32)))), .val (.int (65536 : Int32)), .val (.int ((own_at cs (p1 + (1 : Int32))) &&& (255 : Int32))), .val (.int ((own_at cs (p1 + (2 : Int32))) &&& (255 : Int32)))] [(.int (3 : Int32))])) _
                  refine XS.iconst X0.here hx rfl (hb hby d5_198) ?_
                  show Steps p.tables e below (s₁.setTop (mkF m 199 #[.val (.ref o0), .val (.int p1), .val (.int p2), .val (.int ((own_at cs p1) &&& (255 : Int32))), .val (.int (3 : Int32)), .val (.int (((((((own_at cs p1) &&& (255 : Int32)) &&& (7 : Int32)) <<< ((6 : Int32) &&& 31)) ||| (((own_at cs (p1 + (1 : Int32))) &&& (255 : Int32)) &&& (63 : Int32))) <<< ((6 : Int32) &&& 31)) ||| (((own_at cs (p1 + (2 : Int32))) &&& (255 : Int32)) &&& (63 : Int32)))), .val (.int (65536 : Int32)), .val (.int ((own_at cs (p1 + (1 : Int32))) &&& (255 : Int32))), .val (.int ((own_at cs (p1 + (2 : Int32))) &&& (255 : Int32)))] [(.int (3 : Int32)), (.int (3 : Int32))])) _
                  refine XS.icmpNo X0.here hx rfl (hb hby d5_199) rfl (flt ((by decide) : ¬ ((3 : Int32) < (3 : Int32)))).1 ?_
                  show Steps p.tables e below (s₁.setTop (mkF m 202 #[.val (.ref o0), .val (.int p1), .val (.int p2), .val (.int ((own_at cs p1) &&& (255 : Int32))), .val (.int (3 : Int32)), .val (.int (((((((own_at cs p1) &&& (255 : Int32)) &&& (7 : Int32)) <<< ((6 : Int32) &&& 31)) ||| (((own_at cs (p1 + (1 : Int32))) &&& (255 : Int32)) &&& (63 : Int32))) <<< ((6 : Int32) &&& 31)) ||| (((own_at cs (p1 + (2 : Int32))) &&& (255 : Int32)) &&& (63 : Int32)))), .val (.int (65536 : Int32)), .val (.int ((own_at cs (p1 + (1 : Int32))) &&& (255 : Int32))), .val (.int ((own_at cs (p1 + (2 : Int32))) &&& (255 : Int32)))] [])) _
                  refine XS.aloadN X0.here hx rfl (hb hby d5_202) rfl rfl ?_
                  show Steps p.tables e below (s₁.setTop (mkF m 203 #[.val (.ref o0), .val (.int p1), .val (.int p2), .val (.int ((own_at cs p1) &&& (255 : Int32))), .val (.int (3 : Int32)), .val (.int (((((((own_at cs p1) &&& (255 : Int32)) &&& (7 : Int32)) <<< ((6 : Int32) &&& 31)) ||| (((own_at cs (p1 + (1 : Int32))) &&& (255 : Int32)) &&& (63 : Int32))) <<< ((6 : Int32) &&& 31)) ||| (((own_at cs (p1 + (2 : Int32))) &&& (255 : Int32)) &&& (63 : Int32)))), .val (.int (65536 : Int32)), .val (.int ((own_at cs (p1 + (1 : Int32))) &&& (255 : Int32))), .val (.int ((own_at cs (p1 + (2 : Int32))) &&& (255 : Int32)))] [(.ref o0)])) _
                  refine XS.iloadN X0.here hx rfl (hb hby d5_203) rfl ?_
                  show Steps p.tables e below (s₁.setTop (mkF m 204 #[.val (.ref o0), .val (.int p1), .val (.int p2), .val (.int ((own_at cs p1) &&& (255 : Int32))), .val (.int (3 : Int32)), .val (.int (((((((own_at cs p1) &&& (255 : Int32)) &&& (7 : Int32)) <<< ((6 : Int32) &&& 31)) ||| (((own_at cs (p1 + (1 : Int32))) &&& (255 : Int32)) &&& (63 : Int32))) <<< ((6 : Int32) &&& 31)) ||| (((own_at cs (p1 + (2 : Int32))) &&& (255 : Int32)) &&& (63 : Int32)))), .val (.int (65536 : Int32)), .val (.int ((own_at cs (p1 + (1 : Int32))) &&& (255 : Int32))), .val (.int ((own_at cs (p1 + (2 : Int32))) &&& (255 : Int32)))] [(.int p1), (.ref o0)])) _
                  refine XS.iconst X0.here hx rfl (hb hby d5_204) ?_
                  show Steps p.tables e below (s₁.setTop (mkF m 205 #[.val (.ref o0), .val (.int p1), .val (.int p2), .val (.int ((own_at cs p1) &&& (255 : Int32))), .val (.int (3 : Int32)), .val (.int (((((((own_at cs p1) &&& (255 : Int32)) &&& (7 : Int32)) <<< ((6 : Int32) &&& 31)) ||| (((own_at cs (p1 + (1 : Int32))) &&& (255 : Int32)) &&& (63 : Int32))) <<< ((6 : Int32) &&& 31)) ||| (((own_at cs (p1 + (2 : Int32))) &&& (255 : Int32)) &&& (63 : Int32)))), .val (.int (65536 : Int32)), .val (.int ((own_at cs (p1 + (1 : Int32))) &&& (255 : Int32))), .val (.int ((own_at cs (p1 + (2 : Int32))) &&& (255 : Int32)))] [(.int (3 : Int32)), (.int p1), (.ref o0)])) _
                  refine XS.iadd X0.here hx rfl (hb hby d5_205) rfl ?_
                  show Steps p.tables e below (s₁.setTop (mkF m 206 #[.val (.ref o0), .val (.int p1), .val (.int p2), .val (.int ((own_at cs p1) &&& (255 : Int32))), .val (.int (3 : Int32)), .val (.int (((((((own_at cs p1) &&& (255 : Int32)) &&& (7 : Int32)) <<< ((6 : Int32) &&& 31)) ||| (((own_at cs (p1 + (1 : Int32))) &&& (255 : Int32)) &&& (63 : Int32))) <<< ((6 : Int32) &&& 31)) ||| (((own_at cs (p1 + (2 : Int32))) &&& (255 : Int32)) &&& (63 : Int32)))), .val (.int (65536 : Int32)), .val (.int ((own_at cs (p1 + (1 : Int32))) &&& (255 : Int32))), .val (.int ((own_at cs (p1 + (2 : Int32))) &&& (255 : Int32)))] [(.int (p1 + (3 : Int32))), (.ref o0)])) _
                  refine X0.baloadBytes hx (j := (p1 + (3 : Int32))) (v := (.int (own_at cs (p1 + (3 : Int32))))) (by rw [e0]; exact Ar47.1) (State.isArrayOf_alike hZ.alike Ar47.2.1) Ar47.2.2 hin47 (H47.at hin47 (own_getD cs _)) (g := (mkF m 206 #[.val (.ref o0), .val (.int p1), .val (.int p2), .val (.int ((own_at cs p1) &&& (255 : Int32))), .val (.int (3 : Int32)), .val (.int (((((((own_at cs p1) &&& (255 : Int32)) &&& (7 : Int32)) <<< ((6 : Int32) &&& 31)) ||| (((own_at cs (p1 + (1 : Int32))) &&& (255 : Int32)) &&& (63 : Int32))) <<< ((6 : Int32) &&& 31)) ||| (((own_at cs (p1 + (2 : Int32))) &&& (255 : Int32)) &&& (63 : Int32)))), .val (.int (65536 : Int32)), .val (.int ((own_at cs (p1 + (1 : Int32))) &&& (255 : Int32))), .val (.int ((own_at cs (p1 + (2 : Int32))) &&& (255 : Int32)))] [(.int (p1 + (3 : Int32))), (.ref o0)])) rfl rfl (hb hby d5_206) _ ?_
                  show Steps p.tables e below (s₁.setTop (mkF m 207 #[.val (.ref o0), .val (.int p1), .val (.int p2), .val (.int ((own_at cs p1) &&& (255 : Int32))), .val (.int (3 : Int32)), .val (.int (((((((own_at cs p1) &&& (255 : Int32)) &&& (7 : Int32)) <<< ((6 : Int32) &&& 31)) ||| (((own_at cs (p1 + (1 : Int32))) &&& (255 : Int32)) &&& (63 : Int32))) <<< ((6 : Int32) &&& 31)) ||| (((own_at cs (p1 + (2 : Int32))) &&& (255 : Int32)) &&& (63 : Int32)))), .val (.int (65536 : Int32)), .val (.int ((own_at cs (p1 + (1 : Int32))) &&& (255 : Int32))), .val (.int ((own_at cs (p1 + (2 : Int32))) &&& (255 : Int32)))] [(.int (own_at cs (p1 + (3 : Int32))))])) _
                  refine XS.sipush X0.here hx rfl (hb hby d5_207) ?_
                  show Steps p.tables e below (s₁.setTop (mkF m 210 #[.val (.ref o0), .val (.int p1), .val (.int p2), .val (.int ((own_at cs p1) &&& (255 : Int32))), .val (.int (3 : Int32)), .val (.int (((((((own_at cs p1) &&& (255 : Int32)) &&& (7 : Int32)) <<< ((6 : Int32) &&& 31)) ||| (((own_at cs (p1 + (1 : Int32))) &&& (255 : Int32)) &&& (63 : Int32))) <<< ((6 : Int32) &&& 31)) ||| (((own_at cs (p1 + (2 : Int32))) &&& (255 : Int32)) &&& (63 : Int32)))), .val (.int (65536 : Int32)), .val (.int ((own_at cs (p1 + (1 : Int32))) &&& (255 : Int32))), .val (.int ((own_at cs (p1 + (2 : Int32))) &&& (255 : Int32)))] [(.int (255 : Int32)), (.int (own_at cs (p1 + (3 : Int32))))])) _
                  refine XS.iand X0.here hx rfl (hb hby d5_210) rfl ?_
                  show Steps p.tables e below (s₁.setTop (mkF m 211 #[.val (.ref o0), .val (.int p1), .val (.int p2), .val (.int ((own_at cs p1) &&& (255 : Int32))), .val (.int (3 : Int32)), .val (.int (((((((own_at cs p1) &&& (255 : Int32)) &&& (7 : Int32)) <<< ((6 : Int32) &&& 31)) ||| (((own_at cs (p1 + (1 : Int32))) &&& (255 : Int32)) &&& (63 : Int32))) <<< ((6 : Int32) &&& 31)) ||| (((own_at cs (p1 + (2 : Int32))) &&& (255 : Int32)) &&& (63 : Int32)))), .val (.int (65536 : Int32)), .val (.int ((own_at cs (p1 + (1 : Int32))) &&& (255 : Int32))), .val (.int ((own_at cs (p1 + (2 : Int32))) &&& (255 : Int32)))] [(.int ((own_at cs (p1 + (3 : Int32))) &&& (255 : Int32)))])) _
                  refine XS.istore X0.here hx rfl (hb hby d5_211) rfl (l' := #[.val (.ref o0), .val (.int p1), .val (.int p2), .val (.int ((own_at cs p1) &&& (255 : Int32))), .val (.int (3 : Int32)), .val (.int (((((((own_at cs p1) &&& (255 : Int32)) &&& (7 : Int32)) <<< ((6 : Int32) &&& 31)) ||| (((own_at cs (p1 + (1 : Int32))) &&& (255 : Int32)) &&& (63 : Int32))) <<< ((6 : Int32) &&& 31)) ||| (((own_at cs (p1 + (2 : Int32))) &&& (255 : Int32)) &&& (63 : Int32)))), .val (.int (65536 : Int32)), .val (.int ((own_at cs (p1 + (1 : Int32))) &&& (255 : Int32))), .val (.int ((own_at cs (p1 + (3 : Int32))) &&& (255 : Int32)))]) rfl ?_
                  show Steps p.tables e below (s₁.setTop (mkF m 213 #[.val (.ref o0), .val (.int p1), .val (.int p2), .val (.int ((own_at cs p1) &&& (255 : Int32))), .val (.int (3 : Int32)), .val (.int (((((((own_at cs p1) &&& (255 : Int32)) &&& (7 : Int32)) <<< ((6 : Int32) &&& 31)) ||| (((own_at cs (p1 + (1 : Int32))) &&& (255 : Int32)) &&& (63 : Int32))) <<< ((6 : Int32) &&& 31)) ||| (((own_at cs (p1 + (2 : Int32))) &&& (255 : Int32)) &&& (63 : Int32)))), .val (.int (65536 : Int32)), .val (.int ((own_at cs (p1 + (1 : Int32))) &&& (255 : Int32))), .val (.int ((own_at cs (p1 + (3 : Int32))) &&& (255 : Int32)))] [])) _
                  refine XS.iload X0.here hx rfl (hb hby d5_213) rfl ?_
                  show Steps p.tables e below (s₁.setTop (mkF m 215 #[.val (.ref o0), .val (.int p1), .val (.int p2), .val (.int ((own_at cs p1) &&& (255 : Int32))), .val (.int (3 : Int32)), .val (.int (((((((own_at cs p1) &&& (255 : Int32)) &&& (7 : Int32)) <<< ((6 : Int32) &&& 31)) ||| (((own_at cs (p1 + (1 : Int32))) &&& (255 : Int32)) &&& (63 : Int32))) <<< ((6 : Int32) &&& 31)) ||| (((own_at cs (p1 + (2 : Int32))) &&& (255 : Int32)) &&& (63 : Int32)))), .val (.int (65536 : Int32)), .val (.int ((own_at cs (p1 + (1 : Int32))) &&& (255 : Int32))), .val (.int ((own_at cs (p1 + (3 : Int32))) &&& (255 : Int32)))] [(.int ((own_at cs (p1 + (3 : Int32))) &&& (255 : Int32)))])) _
                  refine XS.sipush X0.here hx rfl (hb hby d5_215) ?_
                  show Steps p.tables e below (s₁.setTop (mkF m 218 #[.val (.ref o0), .val (.int p1), .val (.int p2), .val (.int ((own_at cs p1) &&& (255 : Int32))), .val (.int (3 : Int32)), .val (.int (((((((own_at cs p1) &&& (255 : Int32)) &&& (7 : Int32)) <<< ((6 : Int32) &&& 31)) ||| (((own_at cs (p1 + (1 : Int32))) &&& (255 : Int32)) &&& (63 : Int32))) <<< ((6 : Int32) &&& 31)) ||| (((own_at cs (p1 + (2 : Int32))) &&& (255 : Int32)) &&& (63 : Int32)))), .val (.int (65536 : Int32)), .val (.int ((own_at cs (p1 + (1 : Int32))) &&& (255 : Int32))), .val (.int ((own_at cs (p1 + (3 : Int32))) &&& (255 : Int32)))] [(.int (192 : Int32)), (.int ((own_at cs (p1 + (3 : Int32))) &&& (255 : Int32)))])) _
                  refine XS.iand X0.here hx rfl (hb hby d5_218) rfl ?_
                  show Steps p.tables e below (s₁.setTop (mkF m 219 #[.val (.ref o0), .val (.int p1), .val (.int p2), .val (.int ((own_at cs p1) &&& (255 : Int32))), .val (.int (3 : Int32)), .val (.int (((((((own_at cs p1) &&& (255 : Int32)) &&& (7 : Int32)) <<< ((6 : Int32) &&& 31)) ||| (((own_at cs (p1 + (1 : Int32))) &&& (255 : Int32)) &&& (63 : Int32))) <<< ((6 : Int32) &&& 31)) ||| (((own_at cs (p1 + (2 : Int32))) &&& (255 : Int32)) &&& (63 : Int32)))), .val (.int (65536 : Int32)), .val (.int ((own_at cs (p1 + (1 : Int32))) &&& (255 : Int32))), .val (.int ((own_at cs (p1 + (3 : Int32))) &&& (255 : Int32)))] [(.int (((own_at cs (p1 + (3 : Int32))) &&& (255 : Int32)) &&& (192 : Int32)))])) _
                  refine XS.sipush X0.here hx rfl (hb hby d5_219) ?_
                  exact k)
                by_cases hc222_49 : (((own_at cs (p1 + (3 : Int32))) &&& (255 : Int32)) &&& (192 : Int32)) = (128 : Int32)
                · have pre50 : ∀ t, Steps p.tables e below (s₁.setTop (mkF m 244 #[.val (.ref o0), .val (.int p1), .val (.int p2), .val (.int ((own_at cs p1) &&& (255 : Int32))), .val (.int (3 : Int32)), .val (.int (((((((((own_at cs p1) &&& (255 : Int32)) &&& (7 : Int32)) <<< ((6 : Int32) &&& 31)) ||| (((own_at cs (p1 + (1 : Int32))) &&& (255 : Int32)) &&& (63 : Int32))) <<< ((6 : Int32) &&& 31)) ||| (((own_at cs (p1 + (2 : Int32))) &&& (255 : Int32)) &&& (63 : Int32))) <<< ((6 : Int32) &&& 31)) ||| (((own_at cs (p1 + (3 : Int32))) &&& (255 : Int32)) &&& (63 : Int32)))), .val (.int (65536 : Int32)), .val (.int ((own_at cs (p1 + (1 : Int32))) &&& (255 : Int32))), .val (.int ((own_at cs (p1 + (3 : Int32))) &&& (255 : Int32)))] [(.int (65536 : Int32)), (.int (((((((((own_at cs p1) &&& (255 : Int32)) &&& (7 : Int32)) <<< ((6 : Int32) &&& 31)) ||| (((own_at cs (p1 + (1 : Int32))) &&& (255 : Int32)) &&& (63 : Int32))) <<< ((6 : Int32) &&& 31)) ||| (((own_at cs (p1 + (2 : Int32))) &&& (255 : Int32)) &&& (63 : Int32))) <<< ((6 : Int32) &&& 31)) ||| (((own_at cs (p1 + (3 : Int32))) &&& (255 : Int32)) &&& (63 : Int32))))])) t → Steps p.tables e below (s₁.setTop (entryFrame m #[(.ref o0), (.int p1), (.int p2)] 9)) t := fun t k => pre48 t (by
                    show Steps p.tables e below (s₁.setTop (mkF m 222 #[.val (.ref o0), .val (.int p1), .val (.int p2), .val (.int ((own_at cs p1) &&& (255 : Int32))), .val (.int (3 : Int32)), .val (.int (((((((own_at cs p1) &&& (255 : Int32)) &&& (7 : Int32)) <<< ((6 : Int32) &&& 31)) ||| (((own_at cs (p1 + (1 : Int32))) &&& (255 : Int32)) &&& (63 : Int32))) <<< ((6 : Int32) &&& 31)) ||| (((own_at cs (p1 + (2 : Int32))) &&& (255 : Int32)) &&& (63 : Int32)))), .val (.int (65536 : Int32)), .val (.int ((own_at cs (p1 + (1 : Int32))) &&& (255 : Int32))), .val (.int ((own_at cs (p1 + (3 : Int32))) &&& (255 : Int32)))] [(.int (128 : Int32)), (.int (((own_at cs (p1 + (3 : Int32))) &&& (255 : Int32)) &&& (192 : Int32)))])) _
                    refine XS.icmpYes X0.here hx rfl (pc0 := 222) (pc' := 227) rfl (hb hby d5_222) rfl (teq hc222_49).1 (by decide) (by decide) ?_
                    show Steps p.tables e below (s₁.setTop (mkF m 227 #[.val (.ref o0), .val (.int p1), .val (.int p2), .val (.int ((own_at cs p1) &&& (255 : Int32))), .val (.int (3 : Int32)), .val (.int (((((((own_at cs p1) &&& (255 : Int32)) &&& (7 : Int32)) <<< ((6 : Int32) &&& 31)) ||| (((own_at cs (p1 + (1 : Int32))) &&& (255 : Int32)) &&& (63 : Int32))) <<< ((6 : Int32) &&& 31)) ||| (((own_at cs (p1 + (2 : Int32))) &&& (255 : Int32)) &&& (63 : Int32)))), .val (.int (65536 : Int32)), .val (.int ((own_at cs (p1 + (1 : Int32))) &&& (255 : Int32))), .val (.int ((own_at cs (p1 + (3 : Int32))) &&& (255 : Int32)))] [])) _
                    refine XS.iload X0.here hx rfl (hb hby d5_227) rfl ?_
                    show Steps p.tables e below (s₁.setTop (mkF m 229 #[.val (.ref o0), .val (.int p1), .val (.int p2), .val (.int ((own_at cs p1) &&& (255 : Int32))), .val (.int (3 : Int32)), .val (.int (((((((own_at cs p1) &&& (255 : Int32)) &&& (7 : Int32)) <<< ((6 : Int32) &&& 31)) ||| (((own_at cs (p1 + (1 : Int32))) &&& (255 : Int32)) &&& (63 : Int32))) <<< ((6 : Int32) &&& 31)) ||| (((own_at cs (p1 + (2 : Int32))) &&& (255 : Int32)) &&& (63 : Int32)))), .val (.int (65536 : Int32)), .val (.int ((own_at cs (p1 + (1 : Int32))) &&& (255 : Int32))), .val (.int ((own_at cs (p1 + (3 : Int32))) &&& (255 : Int32)))] [(.int (((((((own_at cs p1) &&& (255 : Int32)) &&& (7 : Int32)) <<< ((6 : Int32) &&& 31)) ||| (((own_at cs (p1 + (1 : Int32))) &&& (255 : Int32)) &&& (63 : Int32))) <<< ((6 : Int32) &&& 31)) ||| (((own_at cs (p1 + (2 : Int32))) &&& (255 : Int32)) &&& (63 : Int32))))])) _
                    refine XS.bipush X0.here hx rfl (hb hby d5_229) ?_
                    show Steps p.tables e below (s₁.setTop (mkF m 231 #[.val (.ref o0), .val (.int p1), .val (.int p2), .val (.int ((own_at cs p1) &&& (255 : Int32))), .val (.int (3 : Int32)), .val (.int (((((((own_at cs p1) &&& (255 : Int32)) &&& (7 : Int32)) <<< ((6 : Int32) &&& 31)) ||| (((own_at cs (p1 + (1 : Int32))) &&& (255 : Int32)) &&& (63 : Int32))) <<< ((6 : Int32) &&& 31)) ||| (((own_at cs (p1 + (2 : Int32))) &&& (255 : Int32)) &&& (63 : Int32)))), .val (.int (65536 : Int32)), .val (.int ((own_at cs (p1 + (1 : Int32))) &&& (255 : Int32))), .val (.int ((own_at cs (p1 + (3 : Int32))) &&& (255 : Int32)))] [(.int (6 : Int32)), (.int (((((((own_at cs p1) &&& (255 : Int32)) &&& (7 : Int32)) <<< ((6 : Int32) &&& 31)) ||| (((own_at cs (p1 + (1 : Int32))) &&& (255 : Int32)) &&& (63 : Int32))) <<< ((6 : Int32) &&& 31)) ||| (((own_at cs (p1 + (2 : Int32))) &&& (255 : Int32)) &&& (63 : Int32))))])) _
                    refine XS.ishl X0.here hx rfl (hb hby d5_231) rfl ?_
                    show Steps p.tables e below (s₁.setTop (mkF m 232 #[.val (.ref o0), .val (.int p1), .val (.int p2), .val (.int ((own_at cs p1) &&& (255 : Int32))), .val (.int (3 : Int32)), .val (.int (((((((own_at cs p1) &&& (255 : Int32)) &&& (7 : Int32)) <<< ((6 : Int32) &&& 31)) ||| (((own_at cs (p1 + (1 : Int32))) &&& (255 : Int32)) &&& (63 : Int32))) <<< ((6 : Int32) &&& 31)) ||| (((own_at cs (p1 + (2 : Int32))) &&& (255 : Int32)) &&& (63 : Int32)))), .val (.int (65536 : Int32)), .val (.int ((own_at cs (p1 + (1 : Int32))) &&& (255 : Int32))), .val (.int ((own_at cs (p1 + (3 : Int32))) &&& (255 : Int32)))] [(.int ((((((((own_at cs p1) &&& (255 : Int32)) &&& (7 : Int32)) <<< ((6 : Int32) &&& 31)) ||| (((own_at cs (p1 + (1 : Int32))) &&& (255 : Int32)) &&& (63 : Int32))) <<< ((6 : Int32) &&& 31)) ||| (((own_at cs (p1 + (2 : Int32))) &&& (255 : Int32)) &&& (63 : Int32))) <<< ((6 : Int32) &&& 31)))])) _
                    refine XS.iload X0.here hx rfl (hb hby d5_232) rfl ?_
                    show Steps p.tables e below (s₁.setTop (mkF m 234 #[.val (.ref o0), .val (.int p1), .val (.int p2), .val (.int ((own_at cs p1) &&& (255 : Int32))), .val (.int (3 : Int32)), .val (.int (((((((own_at cs p1) &&& (255 : Int32)) &&& (7 : Int32)) <<< ((6 : Int32) &&& 31)) ||| (((own_at cs (p1 + (1 : Int32))) &&& (255 : Int32)) &&& (63 : Int32))) <<< ((6 : Int32) &&& 31)) ||| (((own_at cs (p1 + (2 : Int32))) &&& (255 : Int32)) &&& (63 : Int32)))), .val (.int (65536 : Int32)), .val (.int ((own_at cs (p1 + (1 : Int32))) &&& (255 : Int32))), .val (.int ((own_at cs (p1 + (3 : Int32))) &&& (255 : Int32)))] [(.int ((own_at cs (p1 + (3 : Int32))) &&& (255 : Int32))), (.int ((((((((own_at cs p1) &&& (255 : Int32)) &&& (7 : Int32)) <<< ((6 : Int32) &&& 31)) ||| (((own_at cs (p1 + (1 : Int32))) &&& (255 : Int32)) &&& (63 : Int32))) <<< ((6 : Int32) &&& 31)) ||| (((own_at cs (p1 + (2 : Int32))) &&& (255 : Int32)) &&& (63 : Int32))) <<< ((6 : Int32) &&& 31)))])) _
                    refine XS.bipush X0.here hx rfl (hb hby d5_234) ?_
                    show Steps p.tables e below (s₁.setTop (mkF m 236 #[.val (.ref o0), .val (.int p1), .val (.int p2), .val (.int ((own_at cs p1) &&& (255 : Int32))), .val (.int (3 : Int32)), .val (.int (((((((own_at cs p1) &&& (255 : Int32)) &&& (7 : Int32)) <<< ((6 : Int32) &&& 31)) ||| (((own_at cs (p1 + (1 : Int32))) &&& (255 : Int32)) &&& (63 : Int32))) <<< ((6 : Int32) &&& 31)) ||| (((own_at cs (p1 + (2 : Int32))) &&& (255 : Int32)) &&& (63 : Int32)))), .val (.int (65536 : Int32)), .val (.int ((own_at cs (p1 + (1 : Int32))) &&& (255 : Int32))), .val (.int ((own_at cs (p1 + (3 : Int32))) &&& (255 : Int32)))] [(.int (63 : Int32)), (.int ((own_at cs (p1 + (3 : Int32))) &&& (255 : Int32))), (.int ((((((((own_at cs p1) &&& (255 : Int32)) &&& (7 : Int32)) <<< ((6 : Int32) &&& 31)) ||| (((own_at cs (p1 + (1 : Int32))) &&& (255 : Int32)) &&& (63 : Int32))) <<< ((6 : Int32) &&& 31)) ||| (((own_at cs (p1 + (2 : Int32))) &&& (255 : Int32)) &&& (63 : Int32))) <<< ((6 : Int32) &&& 31)))])) _
                    refine XS.iand X0.here hx rfl (hb hby d5_236) rfl ?_
                    show Steps p.tables e below (s₁.setTop (mkF m 237 #[.val (.ref o0), .val (.int p1), .val (.int p2), .val (.int ((own_at cs p1) &&& (255 : Int32))), .val (.int (3 : Int32)), .val (.int (((((((own_at cs p1) &&& (255 : Int32)) &&& (7 : Int32)) <<< ((6 : Int32) &&& 31)) ||| (((own_at cs (p1 + (1 : Int32))) &&& (255 : Int32)) &&& (63 : Int32))) <<< ((6 : Int32) &&& 31)) ||| (((own_at cs (p1 + (2 : Int32))) &&& (255 : Int32)) &&& (63 : Int32)))), .val (.int (65536 : Int32)), .val (.int ((own_at cs (p1 + (1 : Int32))) &&& (255 : Int32))), .val (.int ((own_at cs (p1 + (3 : Int32))) &&& (255 : Int32)))] [(.int (((own_at cs (p1 + (3 : Int32))) &&& (255 : Int32)) &&& (63 : Int32))), (.int ((((((((own_at cs p1) &&& (255 : Int32)) &&& (7 : Int32)) <<< ((6 : Int32) &&& 31)) ||| (((own_at cs (p1 + (1 : Int32))) &&& (255 : Int32)) &&& (63 : Int32))) <<< ((6 : Int32) &&& 31)) ||| (((own_at cs (p1 + (2 : Int32))) &&& (255 : Int32)) &&& (63 : Int32))) <<< ((6 : Int32) &&& 31)))])) _
                    refine XS.ior X0.here hx rfl (hb hby d5_237) rfl ?_
                    show Steps p.tables e below (s₁.setTop (mkF m 238 #[.val (.ref o0), .val (.int p1), .val (.int p2), .val (.int ((own_at cs p1) &&& (255 : Int32))), .val (.int (3 : Int32)), .val (.int (((((((own_at cs p1) &&& (255 : Int32)) &&& (7 : Int32)) <<< ((6 : Int32) &&& 31)) ||| (((own_at cs (p1 + (1 : Int32))) &&& (255 : Int32)) &&& (63 : Int32))) <<< ((6 : Int32) &&& 31)) ||| (((own_at cs (p1 + (2 : Int32))) &&& (255 : Int32)) &&& (63 : Int32)))), .val (.int (65536 : Int32)), .val (.int ((own_at cs (p1 + (1 : Int32))) &&& (255 : Int32))), .val (.int ((own_at cs (p1 + (3 : Int32))) &&& (255 : Int32)))] [(.int (((((((((own_at cs p1) &&& (255 : Int32)) &&& (7 : Int32)) <<< ((6 : Int32) &&& 31)) ||| (((own_at cs (p1 + (1 : Int32))) &&& (255 : Int32)) &&& (63 : Int32))) <<< ((6 : Int32) &&& 31)) ||| (((own_at cs (p1 + (2 : Int32))) &&& (255 : Int32)) &&& (63 : Int32))) <<< ((6 : Int32) &&& 31)) ||| (((own_at cs (p1 + (3 : Int32))) &&& (255 : Int32)) &&& (63 : Int32))))])) _
                    refine XS.istore X0.here hx rfl (hb hby d5_238) rfl (l' := #[.val (.ref o0), .val (.int p1), .val (.int p2), .val (.int ((own_at cs p1) &&& (255 : Int32))), .val (.int (3 : Int32)), .val (.int (((((((((own_at cs p1) &&& (255 : Int32)) &&& (7 : Int32)) <<< ((6 : Int32) &&& 31)) ||| (((own_at cs (p1 + (1 : Int32))) &&& (255 : Int32)) &&& (63 : Int32))) <<< ((6 : Int32) &&& 31)) ||| (((own_at cs (p1 + (2 : Int32))) &&& (255 : Int32)) &&& (63 : Int32))) <<< ((6 : Int32) &&& 31)) ||| (((own_at cs (p1 + (3 : Int32))) &&& (255 : Int32)) &&& (63 : Int32)))), .val (.int (65536 : Int32)), .val (.int ((own_at cs (p1 + (1 : Int32))) &&& (255 : Int32))), .val (.int ((own_at cs (p1 + (3 : Int32))) &&& (255 : Int32)))]) rfl ?_
                    show Steps p.tables e below (s₁.setTop (mkF m 240 #[.val (.ref o0), .val (.int p1), .val (.int p2), .val (.int ((own_at cs p1) &&& (255 : Int32))), .val (.int (3 : Int32)), .val (.int (((((((((own_at cs p1) &&& (255 : Int32)) &&& (7 : Int32)) <<< ((6 : Int32) &&& 31)) ||| (((own_at cs (p1 + (1 : Int32))) &&& (255 : Int32)) &&& (63 : Int32))) <<< ((6 : Int32) &&& 31)) ||| (((own_at cs (p1 + (2 : Int32))) &&& (255 : Int32)) &&& (63 : Int32))) <<< ((6 : Int32) &&& 31)) ||| (((own_at cs (p1 + (3 : Int32))) &&& (255 : Int32)) &&& (63 : Int32)))), .val (.int (65536 : Int32)), .val (.int ((own_at cs (p1 + (1 : Int32))) &&& (255 : Int32))), .val (.int ((own_at cs (p1 + (3 : Int32))) &&& (255 : Int32)))] [])) _
                    refine XS.iload X0.here hx rfl (hb hby d5_240) rfl ?_
                    show Steps p.tables e below (s₁.setTop (mkF m 242 #[.val (.ref o0), .val (.int p1), .val (.int p2), .val (.int ((own_at cs p1) &&& (255 : Int32))), .val (.int (3 : Int32)), .val (.int (((((((((own_at cs p1) &&& (255 : Int32)) &&& (7 : Int32)) <<< ((6 : Int32) &&& 31)) ||| (((own_at cs (p1 + (1 : Int32))) &&& (255 : Int32)) &&& (63 : Int32))) <<< ((6 : Int32) &&& 31)) ||| (((own_at cs (p1 + (2 : Int32))) &&& (255 : Int32)) &&& (63 : Int32))) <<< ((6 : Int32) &&& 31)) ||| (((own_at cs (p1 + (3 : Int32))) &&& (255 : Int32)) &&& (63 : Int32)))), .val (.int (65536 : Int32)), .val (.int ((own_at cs (p1 + (1 : Int32))) &&& (255 : Int32))), .val (.int ((own_at cs (p1 + (3 : Int32))) &&& (255 : Int32)))] [(.int (((((((((own_at cs p1) &&& (255 : Int32)) &&& (7 : Int32)) <<< ((6 : Int32) &&& 31)) ||| (((own_at cs (p1 + (1 : Int32))) &&& (255 : Int32)) &&& (63 : Int32))) <<< ((6 : Int32) &&& 31)) ||| (((own_at cs (p1 + (2 : Int32))) &&& (255 : Int32)) &&& (63 : Int32))) <<< ((6 : Int32) &&& 31)) ||| (((own_at cs (p1 + (3 : Int32))) &&& (255 : Int32)) &&& (63 : Int32))))])) _
                    refine XS.iload X0.here hx rfl (hb hby d5_242) rfl ?_
                    exact k)
                  by_cases hc244_51 : (((((((((own_at cs p1) &&& (255 : Int32)) &&& (7 : Int32)) <<< ((6 : Int32) &&& 31)) ||| (((own_at cs (p1 + (1 : Int32))) &&& (255 : Int32)) &&& (63 : Int32))) <<< ((6 : Int32) &&& 31)) ||| (((own_at cs (p1 + (2 : Int32))) &&& (255 : Int32)) &&& (63 : Int32))) <<< ((6 : Int32) &&& 31)) ||| (((own_at cs (p1 + (3 : Int32))) &&& (255 : Int32)) &&& (63 : Int32))) < (65536 : Int32)
                  · obtain ⟨fs, hr, hrun, hended, hW, hsame⟩ := X0.leave (v := some (.int (-1 : Int32))) (fun h => by rw [Bd.returns] at h; cases h)
                    refine ⟨_, _, pre50 _ ?_, hrun, hended, _, _, rfl, ?_, ⟨_, rfl⟩, hW, hsame.mono (by decide) (by decide)⟩
                    · show Steps p.tables e below (s₁.setTop (mkF m 244 #[.val (.ref o0), .val (.int p1), .val (.int p2), .val (.int ((own_at cs p1) &&& (255 : Int32))), .val (.int (3 : Int32)), .val (.int (((((((((own_at cs p1) &&& (255 : Int32)) &&& (7 : Int32)) <<< ((6 : Int32) &&& 31)) ||| (((own_at cs (p1 + (1 : Int32))) &&& (255 : Int32)) &&& (63 : Int32))) <<< ((6 : Int32) &&& 31)) ||| (((own_at cs (p1 + (2 : Int32))) &&& (255 : Int32)) &&& (63 : Int32))) <<< ((6 : Int32) &&& 31)) ||| (((own_at cs (p1 + (3 : Int32))) &&& (255 : Int32)) &&& (63 : Int32)))), .val (.int (65536 : Int32)), .val (.int ((own_at cs (p1 + (1 : Int32))) &&& (255 : Int32))), .val (.int ((own_at cs (p1 + (3 : Int32))) &&& (255 : Int32)))] [(.int (65536 : Int32)), (.int (((((((((own_at cs p1) &&& (255 : Int32)) &&& (7 : Int32)) <<< ((6 : Int32) &&& 31)) ||| (((own_at cs (p1 + (1 : Int32))) &&& (255 : Int32)) &&& (63 : Int32))) <<< ((6 : Int32) &&& 31)) ||| (((own_at cs (p1 + (2 : Int32))) &&& (255 : Int32)) &&& (63 : Int32))) <<< ((6 : Int32) &&& 31)) ||| (((own_at cs (p1 + (3 : Int32))) &&& (255 : Int32)) &&& (63 : Int32))))])) _
                      refine XS.icmpYes X0.here hx rfl (pc0 := 244) (pc' := 268) rfl (hb hby d5_244) rfl (tlt hc244_51).1 (by decide) (by decide) ?_
                      show Steps p.tables e below (s₁.setTop (mkF m 268 #[.val (.ref o0), .val (.int p1), .val (.int p2), .val (.int ((own_at cs p1) &&& (255 : Int32))), .val (.int (3 : Int32)), .val (.int (((((((((own_at cs p1) &&& (255 : Int32)) &&& (7 : Int32)) <<< ((6 : Int32) &&& 31)) ||| (((own_at cs (p1 + (1 : Int32))) &&& (255 : Int32)) &&& (63 : Int32))) <<< ((6 : Int32) &&& 31)) ||| (((own_at cs (p1 + (2 : Int32))) &&& (255 : Int32)) &&& (63 : Int32))) <<< ((6 : Int32) &&& 31)) ||| (((own_at cs (p1 + (3 : Int32))) &&& (255 : Int32)) &&& (63 : Int32)))), .val (.int (65536 : Int32)), .val (.int ((own_at cs (p1 + (1 : Int32))) &&& (255 : Int32))), .val (.int ((own_at cs (p1 + (3 : Int32))) &&& (255 : Int32)))] [])) _
                      refine XS.iconst X0.here hx rfl (hb hby d5_268) ?_
                      show Steps p.tables e below (s₁.setTop (mkF m 269 #[.val (.ref o0), .val (.int p1), .val (.int p2), .val (.int ((own_at cs p1) &&& (255 : Int32))), .val (.int (3 : Int32)), .val (.int (((((((((own_at cs p1) &&& (255 : Int32)) &&& (7 : Int32)) <<< ((6 : Int32) &&& 31)) ||| (((own_at cs (p1 + (1 : Int32))) &&& (255 : Int32)) &&& (63 : Int32))) <<< ((6 : Int32) &&& 31)) ||| (((own_at cs (p1 + (2 : Int32))) &&& (255 : Int32)) &&& (63 : Int32))) <<< ((6 : Int32) &&& 31)) ||| (((own_at cs (p1 + (3 : Int32))) &&& (255 : Int32)) &&& (63 : Int32)))), .val (.int (65536 : Int32)), .val (.int ((own_at cs (p1 + (1 : Int32))) &&& (255 : Int32))), .val (.int ((own_at cs (p1 + (3 : Int32))) &&& (255 : Int32)))] [(.int (-1 : Int32))])) _
                      exact retI X0 hx Bd.returns (hb hby d5_269) hr
                    · show rm5Q Z cs p1 p2 h0 n0 _ s₁.heap _
                      rw [e0]
                      exact ⟨(by rw [show own_f5 cs p1 p2 = (-1 : Int32) from by simp only [own_f5, if_neg hc12_3, if_neg hc27_5, if_neg hc55_20, if_pos hc83_38, if_pos hc109_40, if_pos hc134_43, if_pos hc178_46, if_pos hc222_49, if_pos hc244_51]]), N0, rfl⟩
                  · have pre52 : ∀ t, Steps p.tables e below (s₁.setTop (mkF m 251 #[.val (.ref o0), .val (.int p1), .val (.int p2), .val (.int ((own_at cs p1) &&& (255 : Int32))), .val (.int (3 : Int32)), .val (.int (((((((((own_at cs p1) &&& (255 : Int32)) &&& (7 : Int32)) <<< ((6 : Int32) &&& 31)) ||| (((own_at cs (p1 + (1 : Int32))) &&& (255 : Int32)) &&& (63 : Int32))) <<< ((6 : Int32) &&& 31)) ||| (((own_at cs (p1 + (2 : Int32))) &&& (255 : Int32)) &&& (63 : Int32))) <<< ((6 : Int32) &&& 31)) ||| (((own_at cs (p1 + (3 : Int32))) &&& (255 : Int32)) &&& (63 : Int32)))), .val (.int (65536 : Int32)), .val (.int ((own_at cs (p1 + (1 : Int32))) &&& (255 : Int32))), .val (.int ((own_at cs (p1 + (3 : Int32))) &&& (255 : Int32)))] [(.int (1114111 : Int32)), (.int (((((((((own_at cs p1) &&& (255 : Int32)) &&& (7 : Int32)) <<< ((6 : Int32) &&& 31)) ||| (((own_at cs (p1 + (1 : Int32))) &&& (255 : Int32)) &&& (63 : Int32))) <<< ((6 : Int32) &&& 31)) ||| (((own_at cs (p1 + (2 : Int32))) &&& (255 : Int32)) &&& (63 : Int32))) <<< ((6 : Int32) &&& 31)) ||| (((own_at cs (p1 + (3 : Int32))) &&& (255 : Int32)) &&& (63 : Int32))))])) t → Steps p.tables e below (s₁.setTop (entryFrame m #[(.ref o0), (.int p1), (.int p2)] 9)) t := fun t k => pre50 t (by
                      show Steps p.tables e below (s₁.setTop (mkF m 244 #[.val (.ref o0), .val (.int p1), .val (.int p2), .val (.int ((own_at cs p1) &&& (255 : Int32))), .val (.int (3 : Int32)), .val (.int (((((((((own_at cs p1) &&& (255 : Int32)) &&& (7 : Int32)) <<< ((6 : Int32) &&& 31)) ||| (((own_at cs (p1 + (1 : Int32))) &&& (255 : Int32)) &&& (63 : Int32))) <<< ((6 : Int32) &&& 31)) ||| (((own_at cs (p1 + (2 : Int32))) &&& (255 : Int32)) &&& (63 : Int32))) <<< ((6 : Int32) &&& 31)) ||| (((own_at cs (p1 + (3 : Int32))) &&& (255 : Int32)) &&& (63 : Int32)))), .val (.int (65536 : Int32)), .val (.int ((own_at cs (p1 + (1 : Int32))) &&& (255 : Int32))), .val (.int ((own_at cs (p1 + (3 : Int32))) &&& (255 : Int32)))] [(.int (65536 : Int32)), (.int (((((((((own_at cs p1) &&& (255 : Int32)) &&& (7 : Int32)) <<< ((6 : Int32) &&& 31)) ||| (((own_at cs (p1 + (1 : Int32))) &&& (255 : Int32)) &&& (63 : Int32))) <<< ((6 : Int32) &&& 31)) ||| (((own_at cs (p1 + (2 : Int32))) &&& (255 : Int32)) &&& (63 : Int32))) <<< ((6 : Int32) &&& 31)) ||| (((own_at cs (p1 + (3 : Int32))) &&& (255 : Int32)) &&& (63 : Int32))))])) _
                      refine XS.icmpNo X0.here hx rfl (hb hby d5_244) rfl (flt hc244_51).1 ?_
                      show Steps p.tables e below (s₁.setTop (mkF m 247 #[.val (.ref o0), .val (.int p1), .val (.int p2), .val (.int ((own_at cs p1) &&& (255 : Int32))), .val (.int (3 : Int32)), .val (.int (((((((((own_at cs p1) &&& (255 : Int32)) &&& (7 : Int32)) <<< ((6 : Int32) &&& 31)) ||| (((own_at cs (p1 + (1 : Int32))) &&& (255 : Int32)) &&& (63 : Int32))) <<< ((6 : Int32) &&& 31)) ||| (((own_at cs (p1 + (2 : Int32))) &&& (255 : Int32)) &&& (63 : Int32))) <<< ((6 : Int32) &&& 31)) ||| (((own_at cs (p1 + (3 : Int32))) &&& (255 : Int32)) &&& (63 : Int32)))), .val (.int (65536 : Int32)), .val (.int ((own_at cs (p1 + (1 : Int32))) &&& (255 : Int32))), .val (.int ((own_at cs (p1 + (3 : Int32))) &&& (255 : Int32)))] [])) _
                      refine XS.iload X0.here hx rfl (hb hby d5_247) rfl ?_
                      show Steps p.tables e below (s₁.setTop (mkF m 249 #[.val (.ref o0), .val (.int p1), .val (.int p2), .val (.int ((own_at cs p1) &&& (255 : Int32))), .val (.int (3 : Int32)), .val (.int (((((((((own_at cs p1) &&& (255 : Int32)) &&& (7 : Int32)) <<< ((6 : Int32) &&& 31)) ||| (((own_at cs (p1 + (1 : Int32))) &&& (255 : Int32)) &&& (63 : Int32))) <<< ((6 : Int32) &&& 31)) ||| (((own_at cs (p1 + (2 : Int32))) &&& (255 : Int32)) &&& (63 : Int32))) <<< ((6 : Int32) &&& 31)) ||| (((own_at cs (p1 + (3 : Int32))) &&& (255 : Int32)) &&& (63 : Int32)))), .val (.int (65536 : Int32)), .val (.int ((own_at cs (p1 + (1 : Int32))) &&& (255 : Int32))), .val (.int ((own_at cs (p1 + (3 : Int32))) &&& (255 : Int32)))] [(.int (((((((((own_at cs p1) &&& (255 : Int32)) &&& (7 : Int32)) <<< ((6 : Int32) &&& 31)) ||| (((own_at cs (p1 + (1 : Int32))) &&& (255 : Int32)) &&& (63 : Int32))) <<< ((6 : Int32) &&& 31)) ||| (((own_at cs (p1 + (2 : Int32))) &&& (255 : Int32)) &&& (63 : Int32))) <<< ((6 : Int32) &&& 31)) ||| (((own_at cs (p1 + (3 : Int32))) &&& (255 : Int32)) &&& (63 : Int32))))])) _
                      refine X0.ldcInt hx hown (mvT hZ (hw _ (List.mem_of_getElem? (i := 20) rfl))) (g := (mkF m 249 #[.val (.ref o0), .val (.int p1), .val (.int p2), .val (.int ((own_at cs p1) &&& (255 : Int32))), .val (.int (3 : Int32)), .val (.int (((((((((own_at cs p1) &&& (255 : Int32)) &&& (7 : Int32)) <<< ((6 : Int32) &&& 31)) ||| (((own_at cs (p1 + (1 : Int32))) &&& (255 : Int32)) &&& (63 : Int32))) <<< ((6 : Int32) &&& 31)) ||| (((own_at cs (p1 + (2 : Int32))) &&& (255 : Int32)) &&& (63 : Int32))) <<< ((6 : Int32) &&& 31)) ||| (((own_at cs (p1 + (3 : Int32))) &&& (255 : Int32)) &&& (63 : Int32)))), .val (.int (65536 : Int32)), .val (.int ((own_at cs (p1 + (1 : Int32))) &&& (255 : Int32))), .val (.int ((own_at cs (p1 + (3 : Int32))) &&& (255 : Int32)))] [(.int (((((((((own_at cs p1) &&& (255 : Int32)) &&& (7 : Int32)) <<< ((6 : Int32) &&& 31)) ||| (((own_at cs (p1 + (1 : Int32))) &&& (255 : Int32)) &&& (63 : Int32))) <<< ((6 : Int32) &&& 31)) ||| (((own_at cs (p1 + (2 : Int32))) &&& (255 : Int32)) &&& (63 : Int32))) <<< ((6 : Int32) &&& 31)) ||| (((own_at cs (p1 + (3 : Int32))) &&& (255 : Int32)) &&& (63 : Int32))))])) rfl (hb hby d5_249) _ ?_
                      exact k)
                    by_cases hc251_53 : (1114111 : Int32) < (((((((((own_at cs p1) &&& (255 : Int32)) &&& (7 : Int32)) <<< ((6 : Int32) &&& 31)) ||| (((own_at cs (p1 + (1 : Int32))) &&& (255 : Int32)) &&& (63 : Int32))) <<< ((6 : Int32) &&& 31)) ||| (((own_at cs (p1 + (2 : Int32))) &&& (255 : Int32)) &&& (63 : Int32))) <<< ((6 : Int32) &&& 31)) ||| (((own_at cs (p1 + (3 : Int32))) &&& (255 : Int32)) &&& (63 : Int32)))
                    · obtain ⟨fs, hr, hrun, hended, hW, hsame⟩ := X0.leave (v := some (.int (-1 : Int32))) (fun h => by rw [Bd.returns] at h; cases h)
                      refine ⟨_, _, pre52 _ ?_, hrun, hended, _, _, rfl, ?_, ⟨_, rfl⟩, hW, hsame.mono (by decide) (by decide)⟩
                      · show Steps p.tables e below (s₁.setTop (mkF m 251 #[.val (.ref o0), .val (.int p1), .val (.int p2), .val (.int ((own_at cs p1) &&& (255 : Int32))), .val (.int (3 : Int32)), .val (.int (((((((((own_at cs p1) &&& (255 : Int32)) &&& (7 : Int32)) <<< ((6 : Int32) &&& 31)) ||| (((own_at cs (p1 + (1 : Int32))) &&& (255 : Int32)) &&& (63 : Int32))) <<< ((6 : Int32) &&& 31)) ||| (((own_at cs (p1 + (2 : Int32))) &&& (255 : Int32)) &&& (63 : Int32))) <<< ((6 : Int32) &&& 31)) ||| (((own_at cs (p1 + (3 : Int32))) &&& (255 : Int32)) &&& (63 : Int32)))), .val (.int (65536 : Int32)), .val (.int ((own_at cs (p1 + (1 : Int32))) &&& (255 : Int32))), .val (.int ((own_at cs (p1 + (3 : Int32))) &&& (255 : Int32)))] [(.int (1114111 : Int32)), (.int (((((((((own_at cs p1) &&& (255 : Int32)) &&& (7 : Int32)) <<< ((6 : Int32) &&& 31)) ||| (((own_at cs (p1 + (1 : Int32))) &&& (255 : Int32)) &&& (63 : Int32))) <<< ((6 : Int32) &&& 31)) ||| (((own_at cs (p1 + (2 : Int32))) &&& (255 : Int32)) &&& (63 : Int32))) <<< ((6 : Int32) &&& 31)) ||| (((own_at cs (p1 + (3 : Int32))) &&& (255 : Int32)) &&& (63 : Int32))))])) _
                        refine XS.icmpYes X0.here hx rfl (pc0 := 251) (pc' := 268) rfl (hb hby d5_251) rfl (tlt hc251_53).2.2.1 (by decide) (by decide) ?_
                        show Steps p.tables e below (s₁.setTop (mkF m 268 #[.val (.ref o0), .val (.int p1), .val (.int p2), .val (.int ((own_at cs p1) &&& (255 : Int32))), .val (.int (3 : Int32)), .val (.int (((((((((own_at cs p1) &&& (255 : Int32)) &&& (7 : Int32)) <<< ((6 : Int32) &&& 31)) ||| (((own_at cs (p1 + (1 : Int32))) &&& (255 : Int32)) &&& (63 : Int32))) <<< ((6 : Int32) &&& 31)) ||| (((own_at cs (p1 + (2 : Int32))) &&& (255 : Int32)) &&& (63 : Int32))) <<< ((6 : Int32) &&& 31)) ||| (((own_at cs (p1 + (3 : Int32))) &&& (255 : Int32)) &&& (63 : Int32)))), .val (.int (65536 : Int32)), .val (.int ((own_at cs (p1 + (1 : Int32))) &&& (255 : Int32))), .val (.int ((own_at cs (p1 + (3 : Int32))) &&& (255 : Int32)))] [])) _
                        refine XS.iconst X0.here hx rfl (hb hby d5_268) ?_
                        show Steps p.tables e below (s₁.setTop (mkF m 269 #[.val (.ref o0), .val (.int p1), .val (.int p2), .val (.int ((own_at cs p1) &&& (255 : Int32))), .val (.int (3 : Int32)), .val (.int (((((((((own_at cs p1) &&& (255 : Int32)) &&& (7 : Int32)) <<< ((6 : Int32) &&& 31)) ||| (((own_at cs (p1 + (1 : Int32))) &&& (255 : Int32)) &&& (63 : Int32))) <<< ((6 : Int32) &&& 31)) ||| (((own_at cs (p1 + (2 : Int32))) &&& (255 : Int32)) &&& (63 : Int32))) <<< ((6 : Int32) &&& 31)) ||| (((own_at cs (p1 + (3 : Int32))) &&& (255 : Int32)) &&& (63 : Int32)))), .val (.int (65536 : Int32)), .val (.int ((own_at cs (p1 + (1 : Int32))) &&& (255 : Int32))), .val (.int ((own_at cs (p1 + (3 : Int32))) &&& (255 : Int32)))] [(.int (-1 : Int32))])) _
                        exact retI X0 hx Bd.returns (hb hby d5_269) hr
                      · show rm5Q Z cs p1 p2 h0 n0 _ s₁.heap _
                        rw [e0]
                        exact ⟨(by rw [show own_f5 cs p1 p2 = (-1 : Int32) from by simp only [own_f5, if_neg hc12_3, if_neg hc27_5, if_neg hc55_20, if_pos hc83_38, if_pos hc109_40, if_pos hc134_43, if_pos hc178_46, if_pos hc222_49, if_neg hc244_51, if_pos hc251_53]]), N0, rfl⟩
                    · have pre54 : ∀ t, Steps p.tables e below (s₁.setTop (mkF m 258 #[.val (.ref o0), .val (.int p1), .val (.int p2), .val (.int ((own_at cs p1) &&& (255 : Int32))), .val (.int (3 : Int32)), .val (.int (((((((((own_at cs p1) &&& (255 : Int32)) &&& (7 : Int32)) <<< ((6 : Int32) &&& 31)) ||| (((own_at cs (p1 + (1 : Int32))) &&& (255 : Int32)) &&& (63 : Int32))) <<< ((6 : Int32) &&& 31)) ||| (((own_at cs (p1 + (2 : Int32))) &&& (255 : Int32)) &&& (63 : Int32))) <<< ((6 : Int32) &&& 31)) ||| (((own_at cs (p1 + (3 : Int32))) &&& (255 : Int32)) &&& (63 : Int32)))), .val (.int (65536 : Int32)), .val (.int ((own_at cs (p1 + (1 : Int32))) &&& (255 : Int32))), .val (.int ((own_at cs (p1 + (3 : Int32))) &&& (255 : Int32)))] [(.int (55296 : Int32)), (.int (((((((((own_at cs p1) &&& (255 : Int32)) &&& (7 : Int32)) <<< ((6 : Int32) &&& 31)) ||| (((own_at cs (p1 + (1 : Int32))) &&& (255 : Int32)) &&& (63 : Int32))) <<< ((6 : Int32) &&& 31)) ||| (((own_at cs (p1 + (2 : Int32))) &&& (255 : Int32)) &&& (63 : Int32))) <<< ((6 : Int32) &&& 31)) ||| (((own_at cs (p1 + (3 : Int32))) &&& (255 : Int32)) &&& (63 : Int32))))])) t → Steps p.tables e below (s₁.setTop (entryFrame m #[(.ref o0), (.int p1), (.int p2)] 9)) t := fun t k => pre52 t (by
                        show Steps p.tables e below (s₁.setTop (mkF m 251 #[.val (.ref o0), .val (.int p1), .val (.int p2), .val (.int ((own_at cs p1) &&& (255 : Int32))), .val (.int (3 : Int32)), .val (.int (((((((((own_at cs p1) &&& (255 : Int32)) &&& (7 : Int32)) <<< ((6 : Int32) &&& 31)) ||| (((own_at cs (p1 + (1 : Int32))) &&& (255 : Int32)) &&& (63 : Int32))) <<< ((6 : Int32) &&& 31)) ||| (((own_at cs (p1 + (2 : Int32))) &&& (255 : Int32)) &&& (63 : Int32))) <<< ((6 : Int32) &&& 31)) ||| (((own_at cs (p1 + (3 : Int32))) &&& (255 : Int32)) &&& (63 : Int32)))), .val (.int (65536 : Int32)), .val (.int ((own_at cs (p1 + (1 : Int32))) &&& (255 : Int32))), .val (.int ((own_at cs (p1 + (3 : Int32))) &&& (255 : Int32)))] [(.int (1114111 : Int32)), (.int (((((((((own_at cs p1) &&& (255 : Int32)) &&& (7 : Int32)) <<< ((6 : Int32) &&& 31)) ||| (((own_at cs (p1 + (1 : Int32))) &&& (255 : Int32)) &&& (63 : Int32))) <<< ((6 : Int32) &&& 31)) ||| (((own_at cs (p1 + (2 : Int32))) &&& (255 : Int32)) &&& (63 : Int32))) <<< ((6 : Int32) &&& 31)) ||| (((own_at cs (p1 + (3 : Int32))) &&& (255 : Int32)) &&& (63 : Int32))))])) _
                        refine XS.icmpNo X0.here hx rfl (hb hby d5_251) rfl (flt hc251_53).2.2.1 ?_
                        show Steps p.tables e below (s₁.setTop (mkF m 254 #[.val (.ref o0), .val (.int p1), .val (.int p2), .val (.int ((own_at cs p1) &&& (255 : Int32))), .val (.int (3 : Int32)), .val (.int (((((((((own_at cs p1) &&& (255 : Int32)) &&& (7 : Int32)) <<< ((6 : Int32) &&& 31)) ||| (((own_at cs (p1 + (1 : Int32))) &&& (255 : Int32)) &&& (63 : Int32))) <<< ((6 : Int32) &&& 31)) ||| (((own_at cs (p1 + (2 : Int32))) &&& (255 : Int32)) &&& (63 : Int32))) <<< ((6 : Int32) &&& 31)) ||| (((own_at cs (p1 + (3 : Int32))) &&& (255 : Int32)) &&& (63 : Int32)))), .val (.int (65536 : Int32)), .val (.int ((own_at cs (p1 + (1 : Int32))) &&& (255 : Int32))), .val (.int ((own_at cs (p1 + (3 : Int32))) &&& (255 : Int32)))] [])) _
                        refine XS.iload X0.here hx rfl (hb hby d5_254) rfl ?_
                        show Steps p.tables e below (s₁.setTop (mkF m 256 #[.val (.ref o0), .val (.int p1), .val (.int p2), .val (.int ((own_at cs p1) &&& (255 : Int32))), .val (.int (3 : Int32)), .val (.int (((((((((own_at cs p1) &&& (255 : Int32)) &&& (7 : Int32)) <<< ((6 : Int32) &&& 31)) ||| (((own_at cs (p1 + (1 : Int32))) &&& (255 : Int32)) &&& (63 : Int32))) <<< ((6 : Int32) &&& 31)) ||| (((own_at cs (p1 + (2 : Int32))) &&& (255 : Int32)) &&& (63 : Int32))) <<< ((6 : Int32) &&& 31)) ||| (((own_at cs (p1 + (3 : Int32))) &&& (255 : Int32)) &&& (63 : Int32)))), .val (.int (65536 : Int32)), .val (.int ((own_at cs (p1 + (1 : Int32))) &&& (255 : Int32))), .val (.int ((own_at cs (p1 + (3 : Int32))) &&& (255 : Int32)))] [(.int (((((((((own_at cs p1) &&& (255 : Int32)) &&& (7 : Int32)) <<< ((6 : Int32) &&& 31)) ||| (((own_at cs (p1 + (1 : Int32))) &&& (255 : Int32)) &&& (63 : Int32))) <<< ((6 : Int32) &&& 31)) ||| (((own_at cs (p1 + (2 : Int32))) &&& (255 : Int32)) &&& (63 : Int32))) <<< ((6 : Int32) &&& 31)) ||| (((own_at cs (p1 + (3 : Int32))) &&& (255 : Int32)) &&& (63 : Int32))))])) _
                        refine X0.ldcInt hx hown (mvT hZ (hw _ (List.mem_of_getElem? (i := 21) rfl))) (g := (mkF m 256 #[.val (.ref o0), .val (.int p1), .val (.int p2), .val (.int ((own_at cs p1) &&& (255 : Int32))), .val (.int (3 : Int32)), .val (.int (((((((((own_at cs p1) &&& (255 : Int32)) &&& (7 : Int32)) <<< ((6 : Int32) &&& 31)) ||| (((own_at cs (p1 + (1 : Int32))) &&& (255 : Int32)) &&& (63 : Int32))) <<< ((6 : Int32) &&& 31)) ||| (((own_at cs (p1 + (2 : Int32))) &&& (255 : Int32)) &&& (63 : Int32))) <<< ((6 : Int32) &&& 31)) ||| (((own_at cs (p1 + (3 : Int32))) &&& (255 : Int32)) &&& (63 : Int32)))), .val (.int (65536 : Int32)), .val (.int ((own_at cs (p1 + (1 : Int32))) &&& (255 : Int32))), .val (.int ((own_at cs (p1 + (3 : Int32))) &&& (255 : Int32)))] [(.int (((((((((own_at cs p1) &&& (255 : Int32)) &&& (7 : Int32)) <<< ((6 : Int32) &&& 31)) ||| (((own_at cs (p1 + (1 : Int32))) &&& (255 : Int32)) &&& (63 : Int32))) <<< ((6 : Int32) &&& 31)) ||| (((own_at cs (p1 + (2 : Int32))) &&& (255 : Int32)) &&& (63 : Int32))) <<< ((6 : Int32) &&& 31)) ||| (((own_at cs (p1 + (3 : Int32))) &&& (255 : Int32)) &&& (63 : Int32))))])) rfl (hb hby d5_256) _ ?_
                        exact k)
                      by_cases hc258_55 : (((((((((own_at cs p1) &&& (255 : Int32)) &&& (7 : Int32)) <<< ((6 : Int32) &&& 31)) ||| (((own_at cs (p1 + (1 : Int32))) &&& (255 : Int32)) &&& (63 : Int32))) <<< ((6 : Int32) &&& 31)) ||| (((own_at cs (p1 + (2 : Int32))) &&& (255 : Int32)) &&& (63 : Int32))) <<< ((6 : Int32) &&& 31)) ||| (((own_at cs (p1 + (3 : Int32))) &&& (255 : Int32)) &&& (63 : Int32))) < (55296 : Int32)
                      · obtain ⟨fs, hr, hrun, hended, hW, hsame⟩ := X0.leave (v := some (.int ((p1 + (3 : Int32)) + (1 : Int32)))) (fun h => by rw [Bd.returns] at h; cases h)
                        refine ⟨_, _, pre54 _ ?_, hrun, hended, _, _, rfl, ?_, ⟨_, rfl⟩, hW, hsame.mono (by decide) (by decide)⟩
                        · show Steps p.tables e below (s₁.setTop (mkF m 258 #[.val (.ref o0), .val (.int p1), .val (.int p2), .val (.int ((own_at cs p1) &&& (255 : Int32))), .val (.int (3 : Int32)), .val (.int (((((((((own_at cs p1) &&& (255 : Int32)) &&& (7 : Int32)) <<< ((6 : Int32) &&& 31)) ||| (((own_at cs (p1 + (1 : Int32))) &&& (255 : Int32)) &&& (63 : Int32))) <<< ((6 : Int32) &&& 31)) ||| (((own_at cs (p1 + (2 : Int32))) &&& (255 : Int32)) &&& (63 : Int32))) <<< ((6 : Int32) &&& 31)) ||| (((own_at cs (p1 + (3 : Int32))) &&& (255 : Int32)) &&& (63 : Int32)))), .val (.int (65536 : Int32)), .val (.int ((own_at cs (p1 + (1 : Int32))) &&& (255 : Int32))), .val (.int ((own_at cs (p1 + (3 : Int32))) &&& (255 : Int32)))] [(.int (55296 : Int32)), (.int (((((((((own_at cs p1) &&& (255 : Int32)) &&& (7 : Int32)) <<< ((6 : Int32) &&& 31)) ||| (((own_at cs (p1 + (1 : Int32))) &&& (255 : Int32)) &&& (63 : Int32))) <<< ((6 : Int32) &&& 31)) ||| (((own_at cs (p1 + (2 : Int32))) &&& (255 : Int32)) &&& (63 : Int32))) <<< ((6 : Int32) &&& 31)) ||| (((own_at cs (p1 + (3 : Int32))) &&& (255 : Int32)) &&& (63 : Int32))))])) _
                          refine XS.icmpYes X0.here hx rfl (pc0 := 258) (pc' := 270) rfl (hb hby d5_258) rfl (tlt hc258_55).1 (by decide) (by decide) ?_
                          show Steps p.tables e below (s₁.setTop (mkF m 270 #[.val (.ref o0), .val (.int p1), .val (.int p2), .val (.int ((own_at cs p1) &&& (255 : Int32))), .val (.int (3 : Int32)), .val (.int (((((((((own_at cs p1) &&& (255 : Int32)) &&& (7 : Int32)) <<< ((6 : Int32) &&& 31)) ||| (((own_at cs (p1 + (1 : Int32))) &&& (255 : Int32)) &&& (63 : Int32))) <<< ((6 : Int32) &&& 31)) ||| (((own_at cs (p1 + (2 : Int32))) &&& (255 : Int32)) &&& (63 : Int32))) <<< ((6 : Int32) &&& 31)) ||| (((own_at cs (p1 + (3 : Int32))) &&& (255 : Int32)) &&& (63 : Int32)))), .val (.int (65536 : Int32)), .val (.int ((own_at cs (p1 + (1 : Int32))) &&& (255 : Int32))), .val (.int ((own_at cs (p1 + (3 : Int32))) &&& (255 : Int32)))] [])) _
                          refine XS.iloadN X0.here hx rfl (hb hby d5_270) rfl ?_
                          show Steps p.tables e below (s₁.setTop (mkF m 271 #[.val (.ref o0), .val (.int p1), .val (.int p2), .val (.int ((own_at cs p1) &&& (255 : Int32))), .val (.int (3 : Int32)), .val (.int (((((((((own_at cs p1) &&& (255 : Int32)) &&& (7 : Int32)) <<< ((6 : Int32) &&& 31)) ||| (((own_at cs (p1 + (1 : Int32))) &&& (255 : Int32)) &&& (63 : Int32))) <<< ((6 : Int32) &&& 31)) ||| (((own_at cs (p1 + (2 : Int32))) &&& (255 : Int32)) &&& (63 : Int32))) <<< ((6 : Int32) &&& 31)) ||| (((own_at cs (p1 + (3 : Int32))) &&& (255 : Int32)) &&& (63 : Int32)))), .val (.int (65536 : Int32)), .val (.int ((own_at cs (p1 + (1 : Int32))) &&& (255 : Int32))), .val (.int ((own_at cs (p1 + (3 : Int32))) &&& (255 : Int32)))] [(.int p1)])) _
                          refine XS.iload X0.here hx rfl (hb hby d5_271) rfl ?_
                          show Steps p.tables e below (s₁.setTop (mkF m 273 #[.val (.ref o0), .val (.int p1), .val (.int p2), .val (.int ((own_at cs p1) &&& (255 : Int32))), .val (.int (3 : Int32)), .val (.int (((((((((own_at cs p1) &&& (255 : Int32)) &&& (7 : Int32)) <<< ((6 : Int32) &&& 31)) ||| (((own_at cs (p1 + (1 : Int32))) &&& (255 : Int32)) &&& (63 : Int32))) <<< ((6 : Int32) &&& 31)) ||| (((own_at cs (p1 + (2 : Int32))) &&& (255 : Int32)) &&& (63 : Int32))) <<< ((6 : Int32) &&& 31)) ||| (((own_at cs (p1 + (3 : Int32))) &&& (255 : Int32)) &&& (63 : Int32)))), .val (.int (65536 : Int32)), .val (.int ((own_at cs (p1 + (1 : Int32))) &&& (255 : Int32))), .val (.int ((own_at cs (p1 + (3 : Int32))) &&& (255 : Int32)))] [(.int (3 : Int32)), (.int p1)])) _
                          refine XS.iadd X0.here hx rfl (hb hby d5_273) rfl ?_
                          show Steps p.tables e below (s₁.setTop (mkF m 274 #[.val (.ref o0), .val (.int p1), .val (.int p2), .val (.int ((own_at cs p1) &&& (255 : Int32))), .val (.int (3 : Int32)), .val (.int (((((((((own_at cs p1) &&& (255 : Int32)) &&& (7 : Int32)) <<< ((6 : Int32) &&& 31)) ||| (((own_at cs (p1 + (1 : Int32))) &&& (255 : Int32)) &&& (63 : Int32))) <<< ((6 : Int32) &&& 31)) ||| (((own_at cs (p1 + (2 : Int32))) &&& (255 : Int32)) &&& (63 : Int32))) <<< ((6 : Int32) &&& 31)) ||| (((own_at cs (p1 + (3 : Int32))) &&& (255 : Int32)) &&& (63 : Int32)))), .val (.int (65536 : Int32)), .val (.int ((own_at cs (p1 + (1 : Int32))) &&& (255 : Int32))), .val (.int ((own_at cs (p1 + (3 : Int32))) &&& (255 : Int32)))] [(.int (p1 + (3 : Int32)))])) _
                          refine XS.iconst X0.here hx rfl (hb hby d5_274) ?_
                          show Steps p.tables e below (s₁.setTop (mkF m 275 #[.val (.ref o0), .val (.int p1), .val (.int p2), .val (.int ((own_at cs p1) &&& (255 : Int32))), .val (.int (3 : Int32)), .val (.int (((((((((own_at cs p1) &&& (255 : Int32)) &&& (7 : Int32)) <<< ((6 : Int32) &&& 31)) ||| (((own_at cs (p1 + (1 : Int32))) &&& (255 : Int32)) &&& (63 : Int32))) <<< ((6 : Int32) &&& 31)) ||| (((own_at cs (p1 + (2 : Int32))) &&& (255 : Int32)) &&& (63 : Int32))) <<< ((6 : Int32) &&& 31)) ||| (((own_at cs (p1 + (3 : Int32))) &&& (255 : Int32)) &&& (63 : Int32)))), .val (.int (65536 : Int32)), .val (.int ((own_at cs (p1 + (1 : Int32))) &&& (255 : Int32))), .val (.int ((own_at cs (p1 + (3 : Int32))) &&& (255 : Int32)))] [(.int (1 : Int32)), (.int (p1 + (3 : Int32)))])) _
                          refine XS.iadd X0.here hx rfl (hb hby d5_275) rfl ?_
                          show Steps p.tables e below (s₁.setTop (mkF m 276 #[.val (.ref o0), .val (.int p1), .val (.int p2), .val (.int ((own_at cs p1) &&& (255 : Int32))), .val (.int (3 : Int32)), .val (.int (((((((((own_at cs p1) &&& (255 : Int32)) &&& (7 : Int32)) <<< ((6 : Int32) &&& 31)) ||| (((own_at cs (p1 + (1 : Int32))) &&& (255 : Int32)) &&& (63 : Int32))) <<< ((6 : Int32) &&& 31)) ||| (((own_at cs (p1 + (2 : Int32))) &&& (255 : Int32)) &&& (63 : Int32))) <<< ((6 : Int32) &&& 31)) ||| (((own_at cs (p1 + (3 : Int32))) &&& (255 : Int32)) &&& (63 : Int32)))), .val (.int (65536 : Int32)), .val (.int ((own_at cs (p1 + (1 : Int32))) &&& (255 : Int32))), .val (.int ((own_at cs (p1 + (3 : Int32))) &&& (255 : Int32)))] [(.int ((p1 + (3 : Int32)) + (1 : Int32)))])) _
                          exact retI X0 hx Bd.returns (hb hby d5_276) hr
                        · show rm5Q Z cs p1 p2 h0 n0 _ s₁.heap _
                          rw [e0]
                          exact ⟨(by rw [show own_f5 cs p1 p2 = ((p1 + (3 : Int32)) + (1 : Int32)) from by simp only [own_f5, if_neg hc12_3, if_neg hc27_5, if_neg hc55_20, if_pos hc83_38, if_pos hc109_40, if_pos hc134_43, if_pos hc178_46, if_pos hc222_49, if_neg hc244_51, if_neg hc251_53, if_pos hc258_55]]), N0, rfl⟩
                      · have pre56 : ∀ t, Steps p.tables e below (s₁.setTop (mkF m 265 #[.val (.ref o0), .val (.int p1), .val (.int p2), .val (.int ((own_at cs p1) &&& (255 : Int32))), .val (.int (3 : Int32)), .val (.int (((((((((own_at cs p1) &&& (255 : Int32)) &&& (7 : Int32)) <<< ((6 : Int32) &&& 31)) ||| (((own_at cs (p1 + (1 : Int32))) &&& (255 : Int32)) &&& (63 : Int32))) <<< ((6 : Int32) &&& 31)) ||| (((own_at cs (p1 + (2 : Int32))) &&& (255 : Int32)) &&& (63 : Int32))) <<< ((6 : Int32) &&& 31)) ||| (((own_at cs (p1 + (3 : Int32))) &&& (255 : Int32)) &&& (63 : Int32)))), .val (.int (65536 : Int32)), .val (.int ((own_at cs (p1 + (1 : Int32))) &&& (255 : Int32))), .val (.int ((own_at cs (p1 + (3 : Int32))) &&& (255 : Int32)))] [(.int (57343 : Int32)), (.int (((((((((own_at cs p1) &&& (255 : Int32)) &&& (7 : Int32)) <<< ((6 : Int32) &&& 31)) ||| (((own_at cs (p1 + (1 : Int32))) &&& (255 : Int32)) &&& (63 : Int32))) <<< ((6 : Int32) &&& 31)) ||| (((own_at cs (p1 + (2 : Int32))) &&& (255 : Int32)) &&& (63 : Int32))) <<< ((6 : Int32) &&& 31)) ||| (((own_at cs (p1 + (3 : Int32))) &&& (255 : Int32)) &&& (63 : Int32))))])) t → Steps p.tables e below (s₁.setTop (entryFrame m #[(.ref o0), (.int p1), (.int p2)] 9)) t := fun t k => pre54 t (by
                          show Steps p.tables e below (s₁.setTop (mkF m 258 #[.val (.ref o0), .val (.int p1), .val (.int p2), .val (.int ((own_at cs p1) &&& (255 : Int32))), .val (.int (3 : Int32)), .val (.int (((((((((own_at cs p1) &&& (255 : Int32)) &&& (7 : Int32)) <<< ((6 : Int32) &&& 31)) ||| (((own_at cs (p1 + (1 : Int32))) &&& (255 : Int32)) &&& (63 : Int32))) <<< ((6 : Int32) &&& 31)) ||| (((own_at cs (p1 + (2 : Int32))) &&& (255 : Int32)) &&& (63 : Int32))) <<< ((6 : Int32) &&& 31)) ||| (((own_at cs (p1 + (3 : Int32))) &&& (255 : Int32)) &&& (63 : Int32)))), .val (.int (65536 : Int32)), .val (.int ((own_at cs (p1 + (1 : Int32))) &&& (255 : Int32))), .val (.int ((own_at cs (p1 + (3 : Int32))) &&& (255 : Int32)))] [(.int (55296 : Int32)), (.int (((((((((own_at cs p1) &&& (255 : Int32)) &&& (7 : Int32)) <<< ((6 : Int32) &&& 31)) ||| (((own_at cs (p1 + (1 : Int32))) &&& (255 : Int32)) &&& (63 : Int32))) <<< ((6 : Int32) &&& 31)) ||| (((own_at cs (p1 + (2 : Int32))) &&& (255 : Int32)) &&& (63 : Int32))) <<< ((6 : Int32) &&& 31)) ||| (((own_at cs (p1 + (3 : Int32))) &&& (255 : Int32)) &&& (63 : Int32))))])) _
                          refine XS.icmpNo X0.here hx rfl (hb hby d5_258) rfl (flt hc258_55).1 ?_
                          show Steps p.tables e below (s₁.setTop (mkF m 261 #[.val (.ref o0), .val (.int p1), .val (.int p2), .val (.int ((own_at cs p1) &&& (255 : Int32))), .val (.int (3 : Int32)), .val (.int (((((((((own_at cs p1) &&& (255 : Int32)) &&& (7 : Int32)) <<< ((6 : Int32) &&& 31)) ||| (((own_at cs (p1 + (1 : Int32))) &&& (255 : Int32)) &&& (63 : Int32))) <<< ((6 : Int32) &&& 31)) ||| (((own_at cs (p1 + (2 : Int32))) &&& (255 : Int32)) &&& (63 : Int32))) <<< ((6 : Int32) &&& 31)) ||| (((own_at cs (p1 + (3 : Int32))) &&& (255 : Int32)) &&& (63 : Int32)))), .val (.int (65536 : Int32)), .val (.int ((own_at cs (p1 + (1 : Int32))) &&& (255 : Int32))), .val (.int ((own_at cs (p1 + (3 : Int32))) &&& (255 : Int32)))] [])) _
                          refine XS.iload X0.here hx rfl (hb hby d5_261) rfl ?_
                          show Steps p.tables e below (s₁.setTop (mkF m 263 #[.val (.ref o0), .val (.int p1), .val (.int p2), .val (.int ((own_at cs p1) &&& (255 : Int32))), .val (.int (3 : Int32)), .val (.int (((((((((own_at cs p1) &&& (255 : Int32)) &&& (7 : Int32)) <<< ((6 : Int32) &&& 31)) ||| (((own_at cs (p1 + (1 : Int32))) &&& (255 : Int32)) &&& (63 : Int32))) <<< ((6 : Int32) &&& 31)) ||| (((own_at cs (p1 + (2 : Int32))) &&& (255 : Int32)) &&& (63 : Int32))) <<< ((6 : Int32) &&& 31)) ||| (((own_at cs (p1 + (3 : Int32))) &&& (255 : Int32)) &&& (63 : Int32)))), .val (.int (65536 : Int32)), .val (.int ((own_at cs (p1 + (1 : Int32))) &&& (255 : Int32))), .val (.int ((own_at cs (p1 + (3 : Int32))) &&& (255 : Int32)))] [(.int (((((((((own_at cs p1) &&& (255 : Int32)) &&& (7 : Int32)) <<< ((6 : Int32) &&& 31)) ||| (((own_at cs (p1 + (1 : Int32))) &&& (255 : Int32)) &&& (63 : Int32))) <<< ((6 : Int32) &&& 31)) ||| (((own_at cs (p1 + (2 : Int32))) &&& (255 : Int32)) &&& (63 : Int32))) <<< ((6 : Int32) &&& 31)) ||| (((own_at cs (p1 + (3 : Int32))) &&& (255 : Int32)) &&& (63 : Int32))))])) _
                          refine X0.ldcInt hx hown (mvT hZ (hw _ (List.mem_of_getElem? (i := 23) rfl))) (g := (mkF m 263 #[.val (.ref o0), .val (.int p1), .val (.int p2), .val (.int ((own_at cs p1) &&& (255 : Int32))), .val (.int (3 : Int32)), .val (.int (((((((((own_at cs p1) &&& (255 : Int32)) &&& (7 : Int32)) <<< ((6 : Int32) &&& 31)) ||| (((own_at cs (p1 + (1 : Int32))) &&& (255 : Int32)) &&& (63 : Int32))) <<< ((6 : Int32) &&& 31)) ||| (((own_at cs (p1 + (2 : Int32))) &&& (255 : Int32)) &&& (63 : Int32))) <<< ((6 : Int32) &&& 31)) ||| (((own_at cs (p1 + (3 : Int32))) &&& (255 : Int32)) &&& (63 : Int32)))), .val (.int (65536 : Int32)), .val (.int ((own_at cs (p1 + (1 : Int32))) &&& (255 : Int32))), .val (.int ((own_at cs (p1 + (3 : Int32))) &&& (255 : Int32)))] [(.int (((((((((own_at cs p1) &&& (255 : Int32)) &&& (7 : Int32)) <<< ((6 : Int32) &&& 31)) ||| (((own_at cs (p1 + (1 : Int32))) &&& (255 : Int32)) &&& (63 : Int32))) <<< ((6 : Int32) &&& 31)) ||| (((own_at cs (p1 + (2 : Int32))) &&& (255 : Int32)) &&& (63 : Int32))) <<< ((6 : Int32) &&& 31)) ||| (((own_at cs (p1 + (3 : Int32))) &&& (255 : Int32)) &&& (63 : Int32))))])) rfl (hb hby d5_263) _ ?_
                          exact k)
                        by_cases hc265_57 : (57343 : Int32) < (((((((((own_at cs p1) &&& (255 : Int32)) &&& (7 : Int32)) <<< ((6 : Int32) &&& 31)) ||| (((own_at cs (p1 + (1 : Int32))) &&& (255 : Int32)) &&& (63 : Int32))) <<< ((6 : Int32) &&& 31)) ||| (((own_at cs (p1 + (2 : Int32))) &&& (255 : Int32)) &&& (63 : Int32))) <<< ((6 : Int32) &&& 31)) ||| (((own_at cs (p1 + (3 : Int32))) &&& (255 : Int32)) &&& (63 : Int32)))
                        · obtain ⟨fs, hr, hrun, hended, hW, hsame⟩ := X0.leave (v := some (.int ((p1 + (3 : Int32)) + (1 : Int32)))) (fun h => by rw [Bd.returns] at h; cases h)
                          refine ⟨_, _, pre56 _ ?_, hrun, hended, _, _, rfl, ?_, ⟨_, rfl⟩, hW, hsame.mono (by decide) (by decide)⟩
                          · show Steps p.tables e below (s₁.setTop (mkF m 265 #[.val (.ref o0), .val (.int p1), .val (.int p2), .val (.int ((own_at cs p1) &&& (255 : Int32))), .val (.int (3 : Int32)), .val (.int (((((((((own_at cs p1) &&& (255 : Int32)) &&& (7 : Int32)) <<< ((6 : Int32) &&& 31)) ||| (((own_at cs (p1 + (1 : Int32))) &&& (255 : Int32)) &&& (63 : Int32))) <<< ((6 : Int32) &&& 31)) ||| (((own_at cs (p1 + (2 : Int32))) &&& (255 : Int32)) &&& (63 : Int32))) <<< ((6 : Int32) &&& 31)) ||| (((own_at cs (p1 + (3 : Int32))) &&& (255 : Int32)) &&& (63 : Int32)))), .val (.int (65536 : Int32)), .val (.int ((own_at cs (p1 + (1 : Int32))) &&& (255 : Int32))), .val (.int ((own_at cs (p1 + (3 : Int32))) &&& (255 : Int32)))] [(.int (57343 : Int32)), (.int (((((((((own_at cs p1) &&& (255 : Int32)) &&& (7 : Int32)) <<< ((6 : Int32) &&& 31)) ||| (((own_at cs (p1 + (1 : Int32))) &&& (255 : Int32)) &&& (63 : Int32))) <<< ((6 : Int32) &&& 31)) ||| (((own_at cs (p1 + (2 : Int32))) &&& (255 : Int32)) &&& (63 : Int32))) <<< ((6 : Int32) &&& 31)) ||| (((own_at cs (p1 + (3 : Int32))) &&& (255 : Int32)) &&& (63 : Int32))))])) _
                            refine XS.icmpYes X0.here hx rfl (pc0 := 265) (pc' := 270) rfl (hb hby d5_265) rfl (tlt hc265_57).2.2.1 (by decide) (by decide) ?_
                            show Steps p.tables e below (s₁.setTop (mkF m 270 #[.val (.ref o0), .val (.int p1), .val (.int p2), .val (.int ((own_at cs p1) &&& (255 : Int32))), .val (.int (3 : Int32)), .val (.int (((((((((own_at cs p1) &&& (255 : Int32)) &&& (7 : Int32)) <<< ((6 : Int32) &&& 31)) ||| (((own_at cs (p1 + (1 : Int32))) &&& (255 : Int32)) &&& (63 : Int32))) <<< ((6 : Int32) &&& 31)) ||| (((own_at cs (p1 + (2 : Int32))) &&& (255 : Int32)) &&& (63 : Int32))) <<< ((6 : Int32) &&& 31)) ||| (((own_at cs (p1 + (3 : Int32))) &&& (255 : Int32)) &&& (63 : Int32)))), .val (.int (65536 : Int32)), .val (.int ((own_at cs (p1 + (1 : Int32))) &&& (255 : Int32))), .val (.int ((own_at cs (p1 + (3 : Int32))) &&& (255 : Int32)))] [])) _
                            refine XS.iloadN X0.here hx rfl (hb hby d5_270) rfl ?_
                            show Steps p.tables e below (s₁.setTop (mkF m 271 #[.val (.ref o0), .val (.int p1), .val (.int p2), .val (.int ((own_at cs p1) &&& (255 : Int32))), .val (.int (3 : Int32)), .val (.int (((((((((own_at cs p1) &&& (255 : Int32)) &&& (7 : Int32)) <<< ((6 : Int32) &&& 31)) ||| (((own_at cs (p1 + (1 : Int32))) &&& (255 : Int32)) &&& (63 : Int32))) <<< ((6 : Int32) &&& 31)) ||| (((own_at cs (p1 + (2 : Int32))) &&& (255 : Int32)) &&& (63 : Int32))) <<< ((6 : Int32) &&& 31)) ||| (((own_at cs (p1 + (3 : Int32))) &&& (255 : Int32)) &&& (63 : Int32)))), .val (.int (65536 : Int32)), .val (.int ((own_at cs (p1 + (1 : Int32))) &&& (255 : Int32))), .val (.int ((own_at cs (p1 + (3 : Int32))) &&& (255 : Int32)))] [(.int p1)])) _
                            refine XS.iload X0.here hx rfl (hb hby d5_271) rfl ?_
                            show Steps p.tables e below (s₁.setTop (mkF m 273 #[.val (.ref o0), .val (.int p1), .val (.int p2), .val (.int ((own_at cs p1) &&& (255 : Int32))), .val (.int (3 : Int32)), .val (.int (((((((((own_at cs p1) &&& (255 : Int32)) &&& (7 : Int32)) <<< ((6 : Int32) &&& 31)) ||| (((own_at cs (p1 + (1 : Int32))) &&& (255 : Int32)) &&& (63 : Int32))) <<< ((6 : Int32) &&& 31)) ||| (((own_at cs (p1 + (2 : Int32))) &&& (255 : Int32)) &&& (63 : Int32))) <<< ((6 : Int32) &&& 31)) ||| (((own_at cs (p1 + (3 : Int32))) &&& (255 : Int32)) &&& (63 : Int32)))), .val (.int (65536 : Int32)), .val (.int ((own_at cs (p1 + (1 : Int32))) &&& (255 : Int32))), .val (.int ((own_at cs (p1 + (3 : Int32))) &&& (255 : Int32)))] [(.int (3 : Int32)), (.int p1)])) _
                            refine XS.iadd X0.here hx rfl (hb hby d5_273) rfl ?_
                            show Steps p.tables e below (s₁.setTop (mkF m 274 #[.val (.ref o0), .val (.int p1), .val (.int p2), .val (.int ((own_at cs p1) &&& (255 : Int32))), .val (.int (3 : Int32)), .val (.int (((((((((own_at cs p1) &&& (255 : Int32)) &&& (7 : Int32)) <<< ((6 : Int32) &&& 31)) ||| (((own_at cs (p1 + (1 : Int32))) &&& (255 : Int32)) &&& (63 : Int32))) <<< ((6 : Int32) &&& 31)) ||| (((own_at cs (p1 + (2 : Int32))) &&& (255 : Int32)) &&& (63 : Int32))) <<< ((6 : Int32) &&& 31)) ||| (((own_at cs (p1 + (3 : Int32))) &&& (255 : Int32)) &&& (63 : Int32)))), .val (.int (65536 : Int32)), .val (.int ((own_at cs (p1 + (1 : Int32))) &&& (255 : Int32))), .val (.int ((own_at cs (p1 + (3 : Int32))) &&& (255 : Int32)))] [(.int (p1 + (3 : Int32)))])) _
                            refine XS.iconst X0.here hx rfl (hb hby d5_274) ?_
                            show Steps p.tables e below (s₁.setTop (mkF m 275 #[.val (.ref o0), .val (.int p1), .val (.int p2), .val (.int ((own_at cs p1) &&& (255 : Int32))), .val (.int (3 : Int32)), .val (.int (((((((((own_at cs p1) &&& (255 : Int32)) &&& (7 : Int32)) <<< ((6 : Int32) &&& 31)) ||| (((own_at cs (p1 + (1 : Int32))) &&& (255 : Int32)) &&& (63 : Int32))) <<< ((6 : Int32) &&& 31)) ||| (((own_at cs (p1 + (2 : Int32))) &&& (255 : Int32)) &&& (63 : Int32))) <<< ((6 : Int32) &&& 31)) ||| (((own_at cs (p1 + (3 : Int32))) &&& (255 : Int32)) &&& (63 : Int32)))), .val (.int (65536 : Int32)), .val (.int ((own_at cs (p1 + (1 : Int32))) &&& (255 : Int32))), .val (.int ((own_at cs (p1 + (3 : Int32))) &&& (255 : Int32)))] [(.int (1 : Int32)), (.int (p1 + (3 : Int32)))])) _
                            refine XS.iadd X0.here hx rfl (hb hby d5_275) rfl ?_
                            show Steps p.tables e below (s₁.setTop (mkF m 276 #[.val (.ref o0), .val (.int p1), .val (.int p2), .val (.int ((own_at cs p1) &&& (255 : Int32))), .val (.int (3 : Int32)), .val (.int (((((((((own_at cs p1) &&& (255 : Int32)) &&& (7 : Int32)) <<< ((6 : Int32) &&& 31)) ||| (((own_at cs (p1 + (1 : Int32))) &&& (255 : Int32)) &&& (63 : Int32))) <<< ((6 : Int32) &&& 31)) ||| (((own_at cs (p1 + (2 : Int32))) &&& (255 : Int32)) &&& (63 : Int32))) <<< ((6 : Int32) &&& 31)) ||| (((own_at cs (p1 + (3 : Int32))) &&& (255 : Int32)) &&& (63 : Int32)))), .val (.int (65536 : Int32)), .val (.int ((own_at cs (p1 + (1 : Int32))) &&& (255 : Int32))), .val (.int ((own_at cs (p1 + (3 : Int32))) &&& (255 : Int32)))] [(.int ((p1 + (3 : Int32)) + (1 : Int32)))])) _
                            exact retI X0 hx Bd.returns (hb hby d5_276) hr
                          · show rm5Q Z cs p1 p2 h0 n0 _ s₁.heap _
                            rw [e0]
                            exact ⟨(by rw [show own_f5 cs p1 p2 = ((p1 + (3 : Int32)) + (1 : Int32)) from by simp only [own_f5, if_neg hc12_3, if_neg hc27_5, if_neg hc55_20, if_pos hc83_38, if_pos hc109_40, if_pos hc134_43, if_pos hc178_46, if_pos hc222_49, if_neg hc244_51, if_neg hc251_53, if_neg hc258_55, if_pos hc265_57]]), N0, rfl⟩
                        · obtain ⟨fs, hr, hrun, hended, hW, hsame⟩ := X0.leave (v := some (.int (-1 : Int32))) (fun h => by rw [Bd.returns] at h; cases h)
                          refine ⟨_, _, pre56 _ ?_, hrun, hended, _, _, rfl, ?_, ⟨_, rfl⟩, hW, hsame.mono (by decide) (by decide)⟩
                          · show Steps p.tables e below (s₁.setTop (mkF m 265 #[.val (.ref o0), .val (.int p1), .val (.int p2), .val (.int ((own_at cs p1) &&& (255 : Int32))), .val (.int (3 : Int32)), .val (.int (((((((((own_at cs p1) &&& (255 : Int32)) &&& (7 : Int32)) <<< ((6 : Int32) &&& 31)) ||| (((own_at cs (p1 + (1 : Int32))) &&& (255 : Int32)) &&& (63 : Int32))) <<< ((6 : Int32) &&& 31)) ||| (((own_at cs (p1 + (2 : Int32))) &&& (255 : Int32)) &&& (63 : Int32))) <<< ((6 : Int32) &&& 31)) ||| (((own_at cs (p1 + (3 : Int32))) &&& (255 : Int32)) &&& (63 : Int32)))), .val (.int (65536 : Int32)), .val (.int ((own_at cs (p1 + (1 : Int32))) &&& (255 : Int32))), .val (.int ((own_at cs (p1 + (3 : Int32))) &&& (255 : Int32)))] [(.int (57343 : Int32)), (.int (((((((((own_at cs p1) &&& (255 : Int32)) &&& (7 : Int32)) <<< ((6 : Int32) &&& 31)) ||| (((own_at cs (p1 + (1 : Int32))) &&& (255 : Int32)) &&& (63 : Int32))) <<< ((6 : Int32) &&& 31)) ||| (((own_at cs (p1 + (2 : Int32))) &&& (255 : Int32)) &&& (63 : Int32))) <<< ((6 : Int32) &&& 31)) ||| (((own_at cs (p1 + (3 : Int32))) &&& (255 : Int32)) &&& (63 : Int32))))])) _
                            refine XS.icmpNo X0.here hx rfl (hb hby d5_265) rfl (flt hc265_57).2.2.1 ?_
                            show Steps p.tables e below (s₁.setTop (mkF m 268 #[.val (.ref o0), .val (.int p1), .val (.int p2), .val (.int ((own_at cs p1) &&& (255 : Int32))), .val (.int (3 : Int32)), .val (.int (((((((((own_at cs p1) &&& (255 : Int32)) &&& (7 : Int32)) <<< ((6 : Int32) &&& 31)) ||| (((own_at cs (p1 + (1 : Int32))) &&& (255 : Int32)) &&& (63 : Int32))) <<< ((6 : Int32) &&& 31)) ||| (((own_at cs (p1 + (2 : Int32))) &&& (255 : Int32)) &&& (63 : Int32))) <<< ((6 : Int32) &&& 31)) ||| (((own_at cs (p1 + (3 : Int32))) &&& (255 : Int32)) &&& (63 : Int32)))), .val (.int (65536 : Int32)), .val (.int ((own_at cs (p1 + (1 : Int32))) &&& (255 : Int32))), .val (.int ((own_at cs (p1 + (3 : Int32))) &&& (255 : Int32)))] [])) _
                            refine XS.iconst X0.here hx rfl (hb hby d5_268) ?_
                            show Steps p.tables e below (s₁.setTop (mkF m 269 #[.val (.ref o0), .val (.int p1), .val (.int p2), .val (.int ((own_at cs p1) &&& (255 : Int32))), .val (.int (3 : Int32)), .val (.int (((((((((own_at cs p1) &&& (255 : Int32)) &&& (7 : Int32)) <<< ((6 : Int32) &&& 31)) ||| (((own_at cs (p1 + (1 : Int32))) &&& (255 : Int32)) &&& (63 : Int32))) <<< ((6 : Int32) &&& 31)) ||| (((own_at cs (p1 + (2 : Int32))) &&& (255 : Int32)) &&& (63 : Int32))) <<< ((6 : Int32) &&& 31)) ||| (((own_at cs (p1 + (3 : Int32))) &&& (255 : Int32)) &&& (63 : Int32)))), .val (.int (65536 : Int32)), .val (.int ((own_at cs (p1 + (1 : Int32))) &&& (255 : Int32))), .val (.int ((own_at cs (p1 + (3 : Int32))) &&& (255 : Int32)))] [(.int (-1 : Int32))])) _
                            exact retI X0 hx Bd.returns (hb hby d5_269) hr
                          · show rm5Q Z cs p1 p2 h0 n0 _ s₁.heap _
                            rw [e0]
                            exact ⟨(by rw [show own_f5 cs p1 p2 = (-1 : Int32) from by simp only [own_f5, if_neg hc12_3, if_neg hc27_5, if_neg hc55_20, if_pos hc83_38, if_pos hc109_40, if_pos hc134_43, if_pos hc178_46, if_pos hc222_49, if_neg hc244_51, if_neg hc251_53, if_neg hc258_55, if_neg hc265_57]]), N0, rfl⟩
                · obtain ⟨fs, hr, hrun, hended, hW, hsame⟩ := X0.leave (v := some (.int (-1 : Int32))) (fun h => by rw [Bd.returns] at h; cases h)
                  refine ⟨_, _, pre48 _ ?_, hrun, hended, _, _, rfl, ?_, ⟨_, rfl⟩, hW, hsame.mono (by decide) (by decide)⟩
                  · show Steps p.tables e below (s₁.setTop (mkF m 222 #[.val (.ref o0), .val (.int p1), .val (.int p2), .val (.int ((own_at cs p1) &&& (255 : Int32))), .val (.int (3 : Int32)), .val (.int (((((((own_at cs p1) &&& (255 : Int32)) &&& (7 : Int32)) <<< ((6 : Int32) &&& 31)) ||| (((own_at cs (p1 + (1 : Int32))) &&& (255 : Int32)) &&& (63 : Int32))) <<< ((6 : Int32) &&& 31)) ||| (((own_at cs (p1 + (2 : Int32))) &&& (255 : Int32)) &&& (63 : Int32)))), .val (.int (65536 : Int32)), .val (.int ((own_at cs (p1 + (1 : Int32))) &&& (255 : Int32))), .val (.int ((own_at cs (p1 + (3 : Int32))) &&& (255 : Int32)))] [(.int (128 : Int32)), (.int (((own_at cs (p1 + (3 : Int32))) &&& (255 : Int32)) &&& (192 : Int32)))])) _
                    refine XS.icmpNo X0.here hx rfl (hb hby d5_222) rfl (feq hc222_49).1 ?_
                    show Steps p.tables e below (s₁.setTop (mkF m 225 #[.val (.ref o0), .val (.int p1), .val (.int p2), .val (.int ((own_at cs p1) &&& (255 : Int32))), .val (.int (3 : Int32)), .val (.int (((((((own_at cs p1) &&& (255 : Int32)) &&& (7 : Int32)) <<< ((6 : Int32) &&& 31)) ||| (((own_at cs (p1 + (1 : Int32))) &&& (255 : Int32)) &&& (63 : Int32))) <<< ((6 : Int32) &&& 31)) ||| (((own_at cs (p1 + (2 : Int32))) &&& (255 : Int32)) &&& (63 : Int32)))), .val (.int (65536 : Int32)), .val (.int ((own_at cs (p1 + (1 : Int32))) &&& (255 : Int32))), .val (.int ((own_at cs (p1 + (3 : Int32))) &&& (255 : Int32)))] [])) _
                    refine XS.iconst X0.here hx rfl (hb hby d5_225) ?_
                    show Steps p.tables e below (s₁.setTop (mkF m 226 #[.val (.ref o0), .val (.int p1), .val (.int p2), .val (.int ((own_at cs p1) &&& (255 : Int32))), .val (.int (3 : Int32)), .val (.int (((((((own_at cs p1) &&& (255 : Int32)) &&& (7 : Int32)) <<< ((6 : Int32) &&& 31)) ||| (((own_at cs (p1 + (1 : Int32))) &&& (255 : Int32)) &&& (63 : Int32))) <<< ((6 : Int32) &&& 31)) ||| (((own_at cs (p1 + (2 : Int32))) &&& (255 : Int32)) &&& (63 : Int32)))), .val (.int (65536 : Int32)), .val (.int ((own_at cs (p1 + (1 : Int32))) &&& (255 : Int32))), .val (.int ((own_at cs (p1 + (3 : Int32))) &&& (255 : Int32)))] [(.int (-1 : Int32))])) _
                    exact retI X0 hx Bd.returns (hb hby d5_226) hr
                  · show rm5Q Z cs p1 p2 h0 n0 _ s₁.heap _
                    rw [e0]
                    exact ⟨(by rw [show own_f5 cs p1 p2 = (-1 : Int32) from by simp only [own_f5, if_neg hc12_3, if_neg hc27_5, if_neg hc55_20, if_pos hc83_38, if_pos hc109_40, if_pos hc134_43, if_pos hc178_46, if_neg hc222_49]]), N0, rfl⟩
              · obtain ⟨fs, hr, hrun, hended, hW, hsame⟩ := X0.leave (v := some (.int (-1 : Int32))) (fun h => by rw [Bd.returns] at h; cases h)
                refine ⟨_, _, pre45 _ ?_, hrun, hended, _, _, rfl, ?_, ⟨_, rfl⟩, hW, hsame.mono (by decide) (by decide)⟩
                · show Steps p.tables e below (s₁.setTop (mkF m 178 #[.val (.ref o0), .val (.int p1), .val (.int p2), .val (.int ((own_at cs p1) &&& (255 : Int32))), .val (.int (3 : Int32)), .val (.int (((((own_at cs p1) &&& (255 : Int32)) &&& (7 : Int32)) <<< ((6 : Int32) &&& 31)) ||| (((own_at cs (p1 + (1 : Int32))) &&& (255 : Int32)) &&& (63 : Int32)))), .val (.int (65536 : Int32)), .val (.int ((own_at cs (p1 + (1 : Int32))) &&& (255 : Int32))), .val (.int ((own_at cs (p1 + (2 : Int32))) &&& (255 : Int32)))] [(.int (128 : Int32)), (.int (((own_at cs (p1 + (2 : Int32))) &&& (255 : Int32)) &&& (192 : Int32)))])) _
                  refine XS.icmpNo X0.here hx rfl (hb hby d5_178) rfl (feq hc178_46).1 ?_
                  show Steps p.tables e below (s₁.setTop (mkF m 181 #[.val (.ref o0), .val (.int p1), .val (.int p2), .val (.int ((own_at cs p1) &&& (255 : Int32))), .val (.int (3 : Int32)), .val (.int (((((own_at cs p1) &&& (255 : Int32)) &&& (7 : Int32)) <<< ((6 : Int32) &&& 31)) ||| (((own_at cs (p1 + (1 : Int32))) &&& (255 : Int32)) &&& (63 : Int32)))), .val (.int (65536 : Int32)), .val (.int ((own_at cs (p1 + (1 : Int32))) &&& (255 : Int32))), .val (.int ((own_at cs (p1 + (2 : Int32))) &&& (255 : Int32)))] [])) _
                  refine XS.iconst X0.here hx rfl (hb hby d5_181) ?_
                  show Steps p.tables e below (s₁.setTop (mkF m 182 #[.val (.ref o0), .val (.int p1), .val (.int p2), .val (.int ((own_at cs p1) &&& (255 : Int32))), .val (.int (3 : Int32)), .val (.int (((((own_at cs p1) &&& (255 : Int32)) &&& (7 : Int32)) <<< ((6 : Int32) &&& 31)) ||| (((own_at cs (p1 + (1 : Int32))) &&& (255 : Int32)) &&& (63 : Int32)))), .val (.int (65536 : Int32)), .val (.int ((own_at cs (p1 + (1 : Int32))) &&& (255 : Int32))), .val (.int ((own_at cs (p1 + (2 : Int32))) &&& (255 : Int32)))] [(.int (-1 : Int32))])) _
                  exact retI X0 hx Bd.returns (hb hby d5_182) hr
                · show rm5Q Z cs p1 p2 h0 n0 _ s₁.heap _
                  rw [e0]
                  exact ⟨(by rw [show own_f5 cs p1 p2 = (-1 : Int32) from by simp only [own_f5, if_neg hc12_3, if_neg hc27_5, if_neg hc55_20, if_pos hc83_38, if_pos hc109_40, if_pos hc134_43, if_neg hc178_46]]), N0, rfl⟩
            · obtain ⟨fs, hr, hrun, hended, hW, hsame⟩ := X0.leave (v := some (.int (-1 : Int32))) (fun h => by rw [Bd.returns] at h; cases h)
              refine ⟨_, _, pre42 _ ?_, hrun, hended, _, _, rfl, ?_, ⟨_, rfl⟩, hW, hsame.mono (by decide) (by decide)⟩
              · show Steps p.tables e below (s₁.setTop (mkF m 134 #[.val (.ref o0), .val (.int p1), .val (.int p2), .val (.int ((own_at cs p1) &&& (255 : Int32))), .val (.int (3 : Int32)), .val (.int (((own_at cs p1) &&& (255 : Int32)) &&& (7 : Int32))), .val (.int (65536 : Int32)), .val (.int ((own_at cs (p1 + (1 : Int32))) &&& (255 : Int32))), .unset] [(.int (128 : Int32)), (.int (((own_at cs (p1 + (1 : Int32))) &&& (255 : Int32)) &&& (192 : Int32)))])) _
                refine XS.icmpNo X0.here hx rfl (hb hby d5_134) rfl (feq hc134_43).1 ?_
                show Steps p.tables e below (s₁.setTop (mkF m 137 #[.val (.ref o0), .val (.int p1), .val (.int p2), .val (.int ((own_at cs p1) &&& (255 : Int32))), .val (.int (3 : Int32)), .val (.int (((own_at cs p1) &&& (255 : Int32)) &&& (7 : Int32))), .val (.int (65536 : Int32)), .val (.int ((own_at cs (p1 + (1 : Int32))) &&& (255 : Int32))), .unset] [])) _
                refine XS.iconst X0.here hx rfl (hb hby d5_137) ?_
                show Steps p.tables e below (s₁.setTop (mkF m 138 #[.val (.ref o0), .val (.int p1), .val (.int p2), .val (.int ((own_at cs p1) &&& (255 : Int32))), .val (.int (3 : Int32)), .val (.int (((own_at cs p1) &&& (255 : Int32)) &&& (7 : Int32))), .val (.int (65536 : Int32)), .val (.int ((own_at cs (p1 + (1 : Int32))) &&& (255 : Int32))), .unset] [(.int (-1 : Int32))])) _
                exact retI X0 hx Bd.returns (hb hby d5_138) hr
              · show rm5Q Z cs p1 p2 h0 n0 _ s₁.heap _
                rw [e0]
                exact ⟨(by rw [show own_f5 cs p1 p2 = (-1 : Int32) from by simp only [own_f5, if_neg hc12_3, if_neg hc27_5, if_neg hc55_20, if_pos hc83_38, if_pos hc109_40, if_neg hc134_43]]), N0, rfl⟩
          · obtain ⟨fs, hr, hrun, hended, hW, hsame⟩ := X0.leave (v := some (.int (-1 : Int32))) (fun h => by rw [Bd.returns] at h; cases h)
            refine ⟨_, _, pre39 _ ?_, hrun, hended, _, _, rfl, ?_, ⟨_, rfl⟩, hW, hsame.mono (by decide) (by decide)⟩
            · show Steps p.tables e below (s₁.setTop (mkF m 109 #[.val (.ref o0), .val (.int p1), .val (.int p2), .val (.int ((own_at cs p1) &&& (255 : Int32))), .val (.int (3 : Int32)), .val (.int (((own_at cs p1) &&& (255 : Int32)) &&& (7 : Int32))), .val (.int (65536 : Int32)), .unset, .unset] [(.int p2), (.int (p1 + (3 : Int32)))])) _
              refine XS.icmpNo X0.here hx rfl (hb hby d5_109) rfl (flt hc109_40).1 ?_
              show Steps p.tables e below (s₁.setTop (mkF m 112 #[.val (.ref o0), .val (.int p1), .val (.int p2), .val (.int ((own_at cs p1) &&& (255 : Int32))), .val (.int (3 : Int32)), .val (.int (((own_at cs p1) &&& (255 : Int32)) &&& (7 : Int32))), .val (.int (65536 : Int32)), .unset, .unset] [])) _
              refine XS.iconst X0.here hx rfl (hb hby d5_112) ?_
              show Steps p.tables e below (s₁.setTop (mkF m 113 #[.val (.ref o0), .val (.int p1), .val (.int p2), .val (.int ((own_at cs p1) &&& (255 : Int32))), .val (.int (3 : Int32)), .val (.int (((own_at cs p1) &&& (255 : Int32)) &&& (7 : Int32))), .val (.int (65536 : Int32)), .unset, .unset] [(.int (-1 : Int32))])) _
              exact retI X0 hx Bd.returns (hb hby d5_113) hr
            · show rm5Q Z cs p1 p2 h0 n0 _ s₁.heap _
              rw [e0]
              exact ⟨(by rw [show own_f5 cs p1 p2 = (-1 : Int32) from by simp only [own_f5, if_neg hc12_3, if_neg hc27_5, if_neg hc55_20, if_pos hc83_38, if_neg hc109_40]]), N0, rfl⟩
        · obtain ⟨fs, hr, hrun, hended, hW, hsame⟩ := X0.leave (v := some (.int (-1 : Int32))) (fun h => by rw [Bd.returns] at h; cases h)
          refine ⟨_, _, pre37 _ ?_, hrun, hended, _, _, rfl, ?_, ⟨_, rfl⟩, hW, hsame.mono (by decide) (by decide)⟩
          · show Steps p.tables e below (s₁.setTop (mkF m 83 #[.val (.ref o0), .val (.int p1), .val (.int p2), .val (.int ((own_at cs p1) &&& (255 : Int32))), .unset, .unset, .unset, .unset, .unset] [(.int (240 : Int32)), (.int (((own_at cs p1) &&& (255 : Int32)) &&& (248 : Int32)))])) _
            refine XS.icmpYes X0.here hx rfl (pc0 := 83) (pc' := 102) rfl (hb hby d5_83) rfl (feq hc83_38).2 (by decide) (by decide) ?_
            show Steps p.tables e below (s₁.setTop (mkF m 102 #[.val (.ref o0), .val (.int p1), .val (.int p2), .val (.int ((own_at cs p1) &&& (255 : Int32))), .unset, .unset, .unset, .unset, .unset] [])) _
            refine XS.iconst X0.here hx rfl (hb hby d5_102) ?_
            show Steps p.tables e below (s₁.setTop (mkF m 103 #[.val (.ref o0), .val (.int p1), .val (.int p2), .val (.int ((own_at cs p1) &&& (255 : Int32))), .unset, .unset, .unset, .unset, .unset] [(.int (-1 : Int32))])) _
            exact retI X0 hx Bd.returns (hb hby d5_103) hr
          · show rm5Q Z cs p1 p2 h0 n0 _ s₁.heap _
            rw [e0]
            exact ⟨(by rw [show own_f5 cs p1 p2 = (-1 : Int32) from by simp only [own_f5, if_neg hc12_3, if_neg hc27_5, if_neg hc55_20, if_neg hc83_38]]), N0, rfl⟩
theorem d4_0 : decode method_3_code 0 = .ok (.iload_n 1, 1) := by decide +kernel
theorem d4_1 : decode method_3_code 1 = .ok (.ifCond .lt 8, 3) := by decide +kernel
theorem d4_4 : decode method_3_code 4 = .ok (.iload_n 1, 1) := by decide +kernel
theorem d4_5 : decode method_3_code 5 = .ok (.iload_n 2, 1) := by decide +kernel
theorem d4_6 : decode method_3_code 6 = .ok (.if_icmp .lt 5, 3) := by decide +kernel
theorem d4_9 : decode method_3_code 9 = .ok (.iload_n 1, 1) := by decide +kernel
theorem d4_10 : decode method_3_code 10 = .ok (.ireturn, 1) := by decide +kernel
theorem d4_11 : decode method_3_code 11 = .ok (.aload_n 0, 1) := by decide +kernel
theorem d4_12 : decode method_3_code 12 = .ok (.iload_n 1, 1) := by decide +kernel
theorem d4_13 : decode method_3_code 13 = .ok (.iload_n 2, 1) := by decide +kernel
theorem d4_14 : decode method_3_code 14 = .ok (.invokestatic 29, 3) := by decide +kernel
theorem d4_17 : decode method_3_code 17 = .ok (.ireturn, 1) := by decide +kernel
theorem pn_4 : plainName "com/example/kazalo/kazalo/records/EncodingFaultsIsUtf8PinLaw" = true := by first | (simp [plainName, overriddenIn]; done) | decide +kernel
theorem pd_rm4_0 : parseMethodDescriptor "([BII)I" = some ⟨[(.array .byte), .int, .int], some .int⟩ := by decide +kernel
theorem ef_rm4 (m : MethodId) (o0 : Addr) (p1 : Int32) (p2 : Int32) : entryFrame m #[(.ref o0), (.int p1), (.int p2)] 3 = mkF m 0 #[.val (.ref o0), .val (.int p1), .val (.int p2)] [] := by first | (simp [entryFrame, mkF, argsToLocals, Value.category]; done) | rfl
def own_f4 (cs : List Int32) (p1 p2 : Int32) : Int32 :=
  if p1 < (0 : Int32) then p1
  else (if p1 < p2 then (own_f5 cs p1 p2)
  else p1)
def rm4Q (Z : State) (cs : List Int32) (p1 p2 : Int32) (h0 : Heap) (n0 : Nat) (v : Option Value) (h : Heap) (L : List Loc) : Prop := v = some (.int (own_f4 cs p1 p2)) ∧ Fr n0 L ∧ h = h0
set_option maxRecDepth 65536 in
set_option maxHeartbeats 40000000 in
theorem rm4 (l : Launch) (Z : State) (aw : Array Value) (hw : ∀ d ∈ tables_1, d.before aw Z = true) (ws : List Jvm.Cond) (o0 : Addr) (p1 : Int32) (p2 : Int32) (cs : List Int32) (k0 : ClassId) (h0 : Heap) (n0 : Nat) (Z0 : n0 ≤ h0.size) (V_a : Arv Z h0 o0 k0 .byte (8 : Int32) (cs.map Value.int) (.int (0 : Int32))) (hi2 : ¬ (8 : Int32) < p2) :
    MetFree l (⟨"com/example/kazalo/kazalo/records/EncodingFaultsIsUtf8PinLaw", "adv", "([BII)I"⟩ : MethodName) (head1 (Jvm.Cond.code (⟨"com/example/kazalo/kazalo/records/EncodingFaultsIsUtf8PinLaw", "adv", "([BII)I"⟩ : MethodName) method_3_code 3 (some .int) :: ws) ({ frames := 1, cells := 0, slots := 0, locals := 20 } : Room)) (fun a U => a = #[(.ref o0), (.int p1), (.int p2)] ∧ Z.Warmed39 U.vm ∧ U.heap = h0) (fun _ _ _ _ _ => True) (fun _ U o U' => ∃ v L, o = .returned v ∧ rm4Q Z cs p1 p2 h0 n0 v U'.heap L ∧ FrameEnd U o U' L ({ frames := 1, cells := 0, slots := 0, locals := 20 } : Room).cells ({ frames := 1, cells := 0, slots := 0, locals := 20 } : Room).slots) := by
  refine MetFree.of_bodySF (plainFor_of_name pn_4) hisR ?_
  intro p e s m args below meth c s₁ Bd hml0 hP hK
  obtain ⟨rfl, hZ, hh⟩ := hP
  have hx := Bd.exec
  have hby := Bd.bytes
  have hml : c.maxLocals = 3 := hml0
  have hown : s.vm.findClass "com/example/kazalo/kazalo/records/EncodingFaultsIsUtf8PinLaw" = some m.cls := findClass_of_methodNamed Bd.named
  have hnm := (name_of_methodNamed Bd.named Bd.method).1
  have X0 : Stand p l e ({ frames := 1, cells := 0, slots := 0, locals := 20 } : Room) s m #[(.ref o0), (.int p1), (.int p2)] below meth c s₁ [] 0 0 := Stand.of_body Bd
  have e0 : s₁.heap = h0 := by rw [← hh, Bd.state]; rfl
  have N0 := Fr.nil n0
  have pre0 : ∀ t, Steps p.tables e below (s₁.setTop (mkF m 0 #[.val (.ref o0), .val (.int p1), .val (.int p2)] [])) t → Steps p.tables e below (s₁.setTop (entryFrame m #[(.ref o0), (.int p1), (.int p2)] 3)) t := fun t k => castTop (ef_rm4 m o0 p1 p2) k
  have pre1 : ∀ t, Steps p.tables e below (s₁.setTop (mkF m 1 #[.val (.ref o0), .val (.int p1), .val (.int p2)] [(.int p1)])) t → Steps p.tables e below (s₁.setTop (entryFrame m #[(.ref o0), (.int p1), (.int p2)] 3)) t := fun t k => pre0 t (by
    show Steps p.tables e below (s₁.setTop (mkF m 0 #[.val (.ref o0), .val (.int p1), .val (.int p2)] [])) _
    refine XS.iloadN X0.here hx rfl (hb hby d4_0) rfl ?_
    exact k)
  by_cases hc1_2 : p1 < (0 : Int32)
  · obtain ⟨fs, hr, hrun, hended, hW, hsame⟩ := X0.leave (v := some (.int p1)) (fun h => by rw [Bd.returns] at h; cases h)
    refine ⟨_, _, pre1 _ ?_, hrun, hended, _, _, rfl, ?_, ⟨_, rfl⟩, hW, hsame.mono (by decide) (by decide)⟩
    · show Steps p.tables e below (s₁.setTop (mkF m 1 #[.val (.ref o0), .val (.int p1), .val (.int p2)] [(.int p1)])) _
      refine XS.ifYes X0.here hx rfl (pc0 := 1) (pc' := 9) rfl (hb hby d4_1) rfl ((if0 _ _).trans (tlt hc1_2).1) (by decide) (by decide) ?_
      show Steps p.tables e below (s₁.setTop (mkF m 9 #[.val (.ref o0), .val (.int p1), .val (.int p2)] [])) _
      refine XS.iloadN X0.here hx rfl (hb hby d4_9) rfl ?_
      show Steps p.tables e below (s₁.setTop (mkF m 10 #[.val (.ref o0), .val (.int p1), .val (.int p2)] [(.int p1)])) _
      exact retI X0 hx Bd.returns (hb hby d4_10) hr
    · show rm4Q Z cs p1 p2 h0 n0 _ s₁.heap _
      rw [e0]
      exact ⟨(by rw [show own_f4 cs p1 p2 = p1 from by simp only [own_f4, if_pos hc1_2]]), N0, rfl⟩
  · have pre3 : ∀ t, Steps p.tables e below (s₁.setTop (mkF m 6 #[.val (.ref o0), .val (.int p1), .val (.int p2)] [(.int p2), (.int p1)])) t → Steps p.tables e below (s₁.setTop (entryFrame m #[(.ref o0), (.int p1), (.int p2)] 3)) t := fun t k => pre1 t (by
      show Steps p.tables e below (s₁.setTop (mkF m 1 #[.val (.ref o0), .val (.int p1), .val (.int p2)] [(.int p1)])) _
      refine XS.ifNo X0.here hx rfl (hb hby d4_1) rfl ((if0 _ _).trans (flt hc1_2).1) ?_
      show Steps p.tables e below (s₁.setTop (mkF m 4 #[.val (.ref o0), .val (.int p1), .val (.int p2)] [])) _
      refine XS.iloadN X0.here hx rfl (hb hby d4_4) rfl ?_
      show Steps p.tables e below (s₁.setTop (mkF m 5 #[.val (.ref o0), .val (.int p1), .val (.int p2)] [(.int p1)])) _
      refine XS.iloadN X0.here hx rfl (hb hby d4_5) rfl ?_
      exact k)
    by_cases hc6_4 : p1 < p2
    · obtain ⟨_, _, ⟨T5, L5, k5, n5⟩, -, X5, ⟨Lc5, hQ5, l5, y5, z5⟩, st5⟩ := Jvm.LawKit.callS X0 hx (y := (⟨"com/example/kazalo/kazalo/records/EncodingFaultsIsUtf8PinLaw", "step", "([BII)I"⟩ : MethodName)) hown (mvT hZ (hw _ (List.mem_of_getElem? (i := 17) rfl))) (mvT hZ (hw _ (List.mem_of_getElem? (i := 18) rfl))) (mvT hZ (hw _ (List.mem_of_getElem? (i := 15) rfl))) (mvT hZ (hw _ (List.mem_of_getElem? (i := 19) rfl))) (by decide) (backOf (W := 0) (rm5 l Z aw hw [] o0 p1 p2 cs k0 h0 n0 Z0 V_a hc1_2 hc6_4 hi2) hZ (hw _ (List.mem_of_getElem? (i := 19) rfl)) (hw _ (List.mem_of_getElem? (i := 15) rfl)) (by decide) (by decide)) (g := (mkF m 14 #[.val (.ref o0), .val (.int p1), .val (.int p2)] [(.int p2), (.int p1), (.ref o0)])) rfl (by rw [hml]; rfl) (argsL := [(.ref o0), (.int p1), (.int p2)]) (rest := []) (lenOf pd_rm4_0 rfl) rfl (by show 2 * 0 + _ ≤ _; exact Nat.le_of_eq rfl) (hb hby d4_14) (fun _ _ => ⟨rfl, e0, (by decide : 0 + 0 ≤ _), (by decide : 0 + 0 ≤ _)⟩)
      dsimp only [Pt.U, Pt.locs, Pt.cells, Pt.slots] at X5 l5 y5 z5 st5 hQ5
      subst l5 y5 z5
      obtain ⟨rfl, N5q, e5q⟩ := hQ5
      have N5 := Fr.app N0 N5q
      obtain ⟨fs, hr, hrun, hended, hW, hsame⟩ := X5.leave (v := some (.int (own_f5 cs p1 p2))) (fun h => by rw [Bd.returns] at h; cases h)
      refine ⟨_, _, pre3 _ ?_, hrun, hended, _, _, rfl, ?_, ⟨_, rfl⟩, hW, hsame.mono (by decide) (by decide)⟩
      · show Steps p.tables e below (s₁.setTop (mkF m 6 #[.val (.ref o0), .val (.int p1), .val (.int p2)] [(.int p2), (.int p1)])) _
        refine XS.icmpYes X0.here hx rfl (pc0 := 6) (pc' := 11) rfl (hb hby d4_6) rfl (tlt hc6_4).1 (by decide) (by decide) ?_
        show Steps p.tables e below (s₁.setTop (mkF m 11 #[.val (.ref o0), .val (.int p1), .val (.int p2)] [])) _
        refine XS.aloadN X0.here hx rfl (hb hby d4_11) rfl rfl ?_
        show Steps p.tables e below (s₁.setTop (mkF m 12 #[.val (.ref o0), .val (.int p1), .val (.int p2)] [(.ref o0)])) _
        refine XS.iloadN X0.here hx rfl (hb hby d4_12) rfl ?_
        show Steps p.tables e below (s₁.setTop (mkF m 13 #[.val (.ref o0), .val (.int p1), .val (.int p2)] [(.int p1), (.ref o0)])) _
        refine XS.iloadN X0.here hx rfl (hb hby d4_13) rfl ?_
        show Steps p.tables e below (s₁.setTop (mkF m 14 #[.val (.ref o0), .val (.int p1), .val (.int p2)] [(.int p2), (.int p1), (.ref o0)])) _
        refine st5 _ ?_
        show Steps p.tables e below (T5.setTop (mkF m 17 #[.val (.ref o0), .val (.int p1), .val (.int p2)] [(.int (own_f5 cs p1 p2))])) _
        exact retI X5 hx Bd.returns (hb hby d4_17) hr
      · show rm4Q Z cs p1 p2 h0 n0 _ T5.heap _
        rw [e5q]
        exact ⟨(by rw [show own_f4 cs p1 p2 = (own_f5 cs p1 p2) from by simp only [own_f4, if_neg hc1_2, if_pos hc6_4]]), N5, rfl⟩
    · obtain ⟨fs, hr, hrun, hended, hW, hsame⟩ := X0.leave (v := some (.int p1)) (fun h => by rw [Bd.returns] at h; cases h)
      refine ⟨_, _, pre3 _ ?_, hrun, hended, _, _, rfl, ?_, ⟨_, rfl⟩, hW, hsame.mono (by decide) (by decide)⟩
      · show Steps p.tables e below (s₁.setTop (mkF m 6 #[.val (.ref o0), .val (.int p1), .val (.int p2)] [(.int p2), (.int p1)])) _
        refine XS.icmpNo X0.here hx rfl (hb hby d4_6) rfl (flt hc6_4).1 ?_
        show Steps p.tables e below (s₁.setTop (mkF m 9 #[.val (.ref o0), .val (.int p1), .val (.int p2)] [])) _
        refine XS.iloadN X0.here hx rfl (hb hby d4_9) rfl ?_
        show Steps p.tables e below (s₁.setTop (mkF m 10 #[.val (.ref o0), .val (.int p1), .val (.int p2)] [(.int p1)])) _
        exact retI X0 hx Bd.returns (hb hby d4_10) hr
      · show rm4Q Z cs p1 p2 h0 n0 _ s₁.heap _
        rw [e0]
        exact ⟨(by rw [show own_f4 cs p1 p2 = p1 from by simp only [own_f4, if_neg hc1_2, if_neg hc6_4]]), N0, rfl⟩
theorem d3_0 : decode prog_55_method_6_code 0 = .ok (.iload_n 1, 1) := by decide +kernel
theorem d3_1 : decode prog_55_method_6_code 1 = .ok (.istore_n 3, 1) := by decide +kernel
theorem d3_2 : decode prog_55_method_6_code 2 = .ok (.iload_n 3, 1) := by decide +kernel
theorem d3_3 : decode prog_55_method_6_code 3 = .ok (.iload_n 2, 1) := by decide +kernel
theorem d3_4 : decode prog_55_method_6_code 4 = .ok (.if_icmp .ge 256, 3) := by decide +kernel
theorem d3_7 : decode prog_55_method_6_code 7 = .ok (.aload_n 0, 1) := by decide +kernel
theorem d3_8 : decode prog_55_method_6_code 8 = .ok (.iload_n 3, 1) := by decide +kernel
theorem d3_9 : decode prog_55_method_6_code 9 = .ok (.baload, 1) := by decide +kernel
theorem d3_10 : decode prog_55_method_6_code 10 = .ok (.istore 4, 2) := by decide +kernel
theorem d3_12 : decode prog_55_method_6_code 12 = .ok (.iload 4, 2) := by decide +kernel
theorem d3_14 : decode prog_55_method_6_code 14 = .ok (.ifCond .lt 9, 3) := by decide +kernel
theorem d3_17 : decode prog_55_method_6_code 17 = .ok (.iinc 3 1, 3) := by decide +kernel
theorem d3_20 : decode prog_55_method_6_code 20 = .ok (.goto (-18), 3) := by decide +kernel
theorem d3_23 : decode prog_55_method_6_code 23 = .ok (.iload 4, 2) := by decide +kernel
theorem d3_25 : decode prog_55_method_6_code 25 = .ok (.sipush 255, 3) := by decide +kernel
theorem d3_28 : decode prog_55_method_6_code 28 = .ok (.iand, 1) := by decide +kernel
theorem d3_29 : decode prog_55_method_6_code 29 = .ok (.istore 4, 2) := by decide +kernel
theorem d3_31 : decode prog_55_method_6_code 31 = .ok (.sipush 128, 3) := by decide +kernel
theorem d3_34 : decode prog_55_method_6_code 34 = .ok (.istore 6, 2) := by decide +kernel
theorem d3_36 : decode prog_55_method_6_code 36 = .ok (.sipush 191, 3) := by decide +kernel
theorem d3_39 : decode prog_55_method_6_code 39 = .ok (.istore 7, 2) := by decide +kernel
theorem d3_41 : decode prog_55_method_6_code 41 = .ok (.iload 4, 2) := by decide +kernel
theorem d3_43 : decode prog_55_method_6_code 43 = .ok (.sipush 194, 3) := by decide +kernel
theorem d3_46 : decode prog_55_method_6_code 46 = .ok (.if_icmp .lt 17, 3) := by decide +kernel
theorem d3_49 : decode prog_55_method_6_code 49 = .ok (.iload 4, 2) := by decide +kernel
theorem d3_51 : decode prog_55_method_6_code 51 = .ok (.sipush 223, 3) := by decide +kernel
theorem d3_54 : decode prog_55_method_6_code 54 = .ok (.if_icmp .gt 9, 3) := by decide +kernel
theorem d3_57 : decode prog_55_method_6_code 57 = .ok (.iconst 1, 1) := by decide +kernel
theorem d3_58 : decode prog_55_method_6_code 58 = .ok (.istore 5, 2) := by decide +kernel
theorem d3_60 : decode prog_55_method_6_code 60 = .ok (.goto 107, 3) := by decide +kernel
theorem d3_63 : decode prog_55_method_6_code 63 = .ok (.iload 4, 2) := by decide +kernel
theorem d3_65 : decode prog_55_method_6_code 65 = .ok (.sipush 224, 3) := by decide +kernel
theorem d3_68 : decode prog_55_method_6_code 68 = .ok (.if_icmp .lt 46, 3) := by decide +kernel
theorem d3_71 : decode prog_55_method_6_code 71 = .ok (.iload 4, 2) := by decide +kernel
theorem d3_73 : decode prog_55_method_6_code 73 = .ok (.sipush 239, 3) := by decide +kernel
theorem d3_76 : decode prog_55_method_6_code 76 = .ok (.if_icmp .gt 38, 3) := by decide +kernel
theorem d3_79 : decode prog_55_method_6_code 79 = .ok (.iconst 2, 1) := by decide +kernel
theorem d3_80 : decode prog_55_method_6_code 80 = .ok (.istore 5, 2) := by decide +kernel
theorem d3_82 : decode prog_55_method_6_code 82 = .ok (.iload 4, 2) := by decide +kernel
theorem d3_84 : decode prog_55_method_6_code 84 = .ok (.sipush 224, 3) := by decide +kernel
theorem d3_87 : decode prog_55_method_6_code 87 = .ok (.if_icmp .ne 11, 3) := by decide +kernel
theorem d3_90 : decode prog_55_method_6_code 90 = .ok (.sipush 160, 3) := by decide +kernel
theorem d3_93 : decode prog_55_method_6_code 93 = .ok (.istore 6, 2) := by decide +kernel
theorem d3_95 : decode prog_55_method_6_code 95 = .ok (.goto 72, 3) := by decide +kernel
theorem d3_98 : decode prog_55_method_6_code 98 = .ok (.iload 4, 2) := by decide +kernel
theorem d3_100 : decode prog_55_method_6_code 100 = .ok (.sipush 237, 3) := by decide +kernel
theorem d3_103 : decode prog_55_method_6_code 103 = .ok (.if_icmp .ne 64, 3) := by decide +kernel
theorem d3_106 : decode prog_55_method_6_code 106 = .ok (.sipush 159, 3) := by decide +kernel
theorem d3_109 : decode prog_55_method_6_code 109 = .ok (.istore 7, 2) := by decide +kernel
theorem d3_111 : decode prog_55_method_6_code 111 = .ok (.goto 56, 3) := by decide +kernel
theorem d3_114 : decode prog_55_method_6_code 114 = .ok (.iload 4, 2) := by decide +kernel
theorem d3_116 : decode prog_55_method_6_code 116 = .ok (.sipush 240, 3) := by decide +kernel
theorem d3_119 : decode prog_55_method_6_code 119 = .ok (.if_icmp .lt 46, 3) := by decide +kernel
theorem d3_122 : decode prog_55_method_6_code 122 = .ok (.iload 4, 2) := by decide +kernel
theorem d3_124 : decode prog_55_method_6_code 124 = .ok (.sipush 244, 3) := by decide +kernel
theorem d3_127 : decode prog_55_method_6_code 127 = .ok (.if_icmp .gt 38, 3) := by decide +kernel
theorem d3_130 : decode prog_55_method_6_code 130 = .ok (.iconst 3, 1) := by decide +kernel
theorem d3_131 : decode prog_55_method_6_code 131 = .ok (.istore 5, 2) := by decide +kernel
theorem d3_133 : decode prog_55_method_6_code 133 = .ok (.iload 4, 2) := by decide +kernel
theorem d3_135 : decode prog_55_method_6_code 135 = .ok (.sipush 240, 3) := by decide +kernel
theorem d3_138 : decode prog_55_method_6_code 138 = .ok (.if_icmp .ne 11, 3) := by decide +kernel
theorem d3_141 : decode prog_55_method_6_code 141 = .ok (.sipush 144, 3) := by decide +kernel
theorem d3_144 : decode prog_55_method_6_code 144 = .ok (.istore 6, 2) := by decide +kernel
theorem d3_146 : decode prog_55_method_6_code 146 = .ok (.goto 21, 3) := by decide +kernel
theorem d3_149 : decode prog_55_method_6_code 149 = .ok (.iload 4, 2) := by decide +kernel
theorem d3_151 : decode prog_55_method_6_code 151 = .ok (.sipush 244, 3) := by decide +kernel
theorem d3_154 : decode prog_55_method_6_code 154 = .ok (.if_icmp .ne 13, 3) := by decide +kernel
theorem d3_157 : decode prog_55_method_6_code 157 = .ok (.sipush 143, 3) := by decide +kernel
theorem d3_160 : decode prog_55_method_6_code 160 = .ok (.istore 7, 2) := by decide +kernel
theorem d3_162 : decode prog_55_method_6_code 162 = .ok (.goto 5, 3) := by decide +kernel
theorem d3_165 : decode prog_55_method_6_code 165 = .ok (.iconst 0, 1) := by decide +kernel
theorem d3_166 : decode prog_55_method_6_code 166 = .ok (.ireturn, 1) := by decide +kernel
theorem d3_167 : decode prog_55_method_6_code 167 = .ok (.iload_n 2, 1) := by decide +kernel
theorem d3_168 : decode prog_55_method_6_code 168 = .ok (.iload_n 3, 1) := by decide +kernel
theorem d3_169 : decode prog_55_method_6_code 169 = .ok (.isub, 1) := by decide +kernel
theorem d3_170 : decode prog_55_method_6_code 170 = .ok (.iload 5, 2) := by decide +kernel
theorem d3_172 : decode prog_55_method_6_code 172 = .ok (.if_icmp .gt 5, 3) := by decide +kernel
theorem d3_175 : decode prog_55_method_6_code 175 = .ok (.iconst 0, 1) := by decide +kernel
theorem d3_176 : decode prog_55_method_6_code 176 = .ok (.ireturn, 1) := by decide +kernel
theorem d3_177 : decode prog_55_method_6_code 177 = .ok (.aload_n 0, 1) := by decide +kernel
theorem d3_178 : decode prog_55_method_6_code 178 = .ok (.iload_n 3, 1) := by decide +kernel
theorem d3_179 : decode prog_55_method_6_code 179 = .ok (.iconst 1, 1) := by decide +kernel
theorem d3_180 : decode prog_55_method_6_code 180 = .ok (.iadd, 1) := by decide +kernel
theorem d3_181 : decode prog_55_method_6_code 181 = .ok (.baload, 1) := by decide +kernel
theorem d3_182 : decode prog_55_method_6_code 182 = .ok (.sipush 255, 3) := by decide +kernel
theorem d3_185 : decode prog_55_method_6_code 185 = .ok (.iand, 1) := by decide +kernel
theorem d3_186 : decode prog_55_method_6_code 186 = .ok (.istore 8, 2) := by decide +kernel
theorem d3_188 : decode prog_55_method_6_code 188 = .ok (.iload 8, 2) := by decide +kernel
theorem d3_190 : decode prog_55_method_6_code 190 = .ok (.iload 6, 2) := by decide +kernel
theorem d3_192 : decode prog_55_method_6_code 192 = .ok (.if_icmp .lt 10, 3) := by decide +kernel
theorem d3_195 : decode prog_55_method_6_code 195 = .ok (.iload 8, 2) := by decide +kernel
theorem d3_197 : decode prog_55_method_6_code 197 = .ok (.iload 7, 2) := by decide +kernel
theorem d3_199 : decode prog_55_method_6_code 199 = .ok (.if_icmp .le 5, 3) := by decide +kernel
theorem d3_202 : decode prog_55_method_6_code 202 = .ok (.iconst 0, 1) := by decide +kernel
theorem d3_203 : decode prog_55_method_6_code 203 = .ok (.ireturn, 1) := by decide +kernel
theorem d3_204 : decode prog_55_method_6_code 204 = .ok (.iconst 2, 1) := by decide +kernel
theorem d3_205 : decode prog_55_method_6_code 205 = .ok (.istore 9, 2) := by decide +kernel
theorem d3_207 : decode prog_55_method_6_code 207 = .ok (.iload 9, 2) := by decide +kernel
theorem d3_209 : decode prog_55_method_6_code 209 = .ok (.iload 5, 2) := by decide +kernel
theorem d3_211 : decode prog_55_method_6_code 211 = .ok (.if_icmp .gt 39, 3) := by decide +kernel
theorem d3_214 : decode prog_55_method_6_code 214 = .ok (.aload_n 0, 1) := by decide +kernel
theorem d3_215 : decode prog_55_method_6_code 215 = .ok (.iload_n 3, 1) := by decide +kernel
theorem d3_216 : decode prog_55_method_6_code 216 = .ok (.iload 9, 2) := by decide +kernel
theorem d3_218 : decode prog_55_method_6_code 218 = .ok (.iadd, 1) := by decide +kernel
theorem d3_219 : decode prog_55_method_6_code 219 = .ok (.baload, 1) := by decide +kernel
theorem d3_220 : decode prog_55_method_6_code 220 = .ok (.sipush 255, 3) := by decide +kernel
theorem d3_223 : decode prog_55_method_6_code 223 = .ok (.iand, 1) := by decide +kernel
theorem d3_224 : decode prog_55_method_6_code 224 = .ok (.istore 10, 2) := by decide +kernel
theorem d3_226 : decode prog_55_method_6_code 226 = .ok (.iload 10, 2) := by decide +kernel
theorem d3_228 : decode prog_55_method_6_code 228 = .ok (.sipush 128, 3) := by decide +kernel
theorem d3_231 : decode prog_55_method_6_code 231 = .ok (.if_icmp .lt 11, 3) := by decide +kernel
theorem d3_234 : decode prog_55_method_6_code 234 = .ok (.iload 10, 2) := by decide +kernel
theorem d3_236 : decode prog_55_method_6_code 236 = .ok (.sipush 191, 3) := by decide +kernel
theorem d3_239 : decode prog_55_method_6_code 239 = .ok (.if_icmp .le 5, 3) := by decide +kernel
theorem d3_242 : decode prog_55_method_6_code 242 = .ok (.iconst 0, 1) := by decide +kernel
theorem d3_243 : decode prog_55_method_6_code 243 = .ok (.ireturn, 1) := by decide +kernel
theorem d3_244 : decode prog_55_method_6_code 244 = .ok (.iinc 9 1, 3) := by decide +kernel
theorem d3_247 : decode prog_55_method_6_code 247 = .ok (.goto (-40), 3) := by decide +kernel
theorem d3_250 : decode prog_55_method_6_code 250 = .ok (.iload_n 3, 1) := by decide +kernel
theorem d3_251 : decode prog_55_method_6_code 251 = .ok (.iload 5, 2) := by decide +kernel
theorem d3_253 : decode prog_55_method_6_code 253 = .ok (.iconst 1, 1) := by decide +kernel
theorem d3_254 : decode prog_55_method_6_code 254 = .ok (.iadd, 1) := by decide +kernel
theorem d3_255 : decode prog_55_method_6_code 255 = .ok (.iadd, 1) := by decide +kernel
theorem d3_256 : decode prog_55_method_6_code 256 = .ok (.istore_n 3, 1) := by decide +kernel
theorem d3_257 : decode prog_55_method_6_code 257 = .ok (.goto (-255), 3) := by decide +kernel
theorem d3_260 : decode prog_55_method_6_code 260 = .ok (.iconst 1, 1) := by decide +kernel
theorem d3_261 : decode prog_55_method_6_code 261 = .ok (.ireturn, 1) := by decide +kernel
theorem pn_3 : plainName "com/example/kazalo/kazalo/records/EncodingFaults" = true := by first | (simp [plainName, overriddenIn]; done) | decide +kernel
theorem ef_rm3 (m : MethodId) (o0 : Addr) (p1 : Int32) (p2 : Int32) : entryFrame m #[(.ref o0), (.int p1), (.int p2)] 11 = mkF m 0 #[.val (.ref o0), .val (.int p1), .val (.int p2), .unset, .unset, .unset, .unset, .unset, .unset, .unset, .unset] [] := by first | (simp [entryFrame, mkF, argsToLocals, Value.category]; done) | rfl
def own_lo3 (cs : List Int32) (p2 i : Int32) : Int32 :=
  if ((own_at cs i) &&& (255 : Int32)) = (240 : Int32) then (144 : Int32)
  else (if ((own_at cs i) &&& (255 : Int32)) = (244 : Int32) then (128 : Int32)
  else (128 : Int32))
def own_hi3 (cs : List Int32) (p2 i : Int32) : Int32 :=
  if ((own_at cs i) &&& (255 : Int32)) = (240 : Int32) then (191 : Int32)
  else (if ((own_at cs i) &&& (255 : Int32)) = (244 : Int32) then (143 : Int32)
  else (191 : Int32))
def own_lo2 (cs : List Int32) (p2 i : Int32) : Int32 :=
  if ((own_at cs i) &&& (255 : Int32)) = (224 : Int32) then (160 : Int32)
  else (if ((own_at cs i) &&& (255 : Int32)) = (237 : Int32) then (128 : Int32)
  else (128 : Int32))
def own_hi2 (cs : List Int32) (p2 i : Int32) : Int32 :=
  if ((own_at cs i) &&& (255 : Int32)) = (224 : Int32) then (191 : Int32)
  else (if ((own_at cs i) &&& (255 : Int32)) = (237 : Int32) then (159 : Int32)
  else (191 : Int32))
def own_turn (cs : List Int32) (p2 i : Int32) : Int32 :=
  if (own_at cs i) < (0 : Int32) then (if ((own_at cs i) &&& (255 : Int32)) < (194 : Int32) then (-1 : Int32)
    else (if (223 : Int32) < ((own_at cs i) &&& (255 : Int32)) then (if (239 : Int32) < ((own_at cs i) &&& (255 : Int32)) then (if (244 : Int32) < ((own_at cs i) &&& (255 : Int32)) then (-1 : Int32)
        else (if (3 : Int32) < (p2 - i) then (if ((own_at cs (i + (1 : Int32))) &&& (255 : Int32)) < (own_lo3 cs p2 i) then (-1 : Int32)
          else (if (own_hi3 cs p2 i) < ((own_at cs (i + (1 : Int32))) &&& (255 : Int32)) then (-1 : Int32)
          else (if ((own_at cs (i + (2 : Int32))) &&& (255 : Int32)) < (128 : Int32) then (-1 : Int32)
          else (if (191 : Int32) < ((own_at cs (i + (2 : Int32))) &&& (255 : Int32)) then (-1 : Int32)
          else (if ((own_at cs (i + (3 : Int32))) &&& (255 : Int32)) < (128 : Int32) then (-1 : Int32)
          else (if (191 : Int32) < ((own_at cs (i + (3 : Int32))) &&& (255 : Int32)) then (-1 : Int32)
          else (i + (4 : Int32))))))))
        else (-1 : Int32)))
      else (if (2 : Int32) < (p2 - i) then (if ((own_at cs (i + (1 : Int32))) &&& (255 : Int32)) < (own_lo2 cs p2 i) then (-1 : Int32)
        else (if (own_hi2 cs p2 i) < ((own_at cs (i + (1 : Int32))) &&& (255 : Int32)) then (-1 : Int32)
        else (if ((own_at cs (i + (2 : Int32))) &&& (255 : Int32)) < (128 : Int32) then (-1 : Int32)
        else (if (191 : Int32) < ((own_at cs (i + (2 : Int32))) &&& (255 : Int32)) then (-1 : Int32)
        else (i + (3 : Int32))))))
      else (-1 : Int32)))
    else (if (1 : Int32) < (p2 - i) then (if ((own_at cs (i + (1 : Int32))) &&& (255 : Int32)) < (128 : Int32) then (-1 : Int32)
      else (if (191 : Int32) < ((own_at cs (i + (1 : Int32))) &&& (255 : Int32)) then (-1 : Int32)
      else (i + (2 : Int32))))
    else (-1 : Int32))))
  else (i + (1 : Int32))
def own_utf (cs : List Int32) (to : Int32) : Nat → Int32 → Int32
  | 0, _ => 1
  | k + 1, i => if i < to then (if own_turn cs to i = (-1 : Int32) then 0 else own_utf cs to k (own_turn cs to i)) else 1
section OwnLoop
variable {cs : List Int32} {to i j r n m : Int32} {k : Nat}
theorem own_z (h : to.toInt - i.toInt ≤ (0 : Nat)) : ¬ i < to := by
  rw [Int32.lt_iff_toInt_lt]; omega
theorem own_end (h : ¬ i < to) (hq : r = own_utf cs to k i) : r = (1 : Int32) := by
  cases k with
  | zero => exact hq
  | succ k => rw [hq, own_utf, if_neg h]
theorem own_stop (h : i < to) (ht : own_turn cs to i = (-1 : Int32)) (hq : r = own_utf cs to (k + 1) i) : r = (0 : Int32) := by
  rw [hq, own_utf, if_pos h, if_pos ht]
theorem own_go (h : i < to) (ht : own_turn cs to i = j) (hj : ¬ j < (0 : Int32)) (hq : r = own_utf cs to (k + 1) i) : r = own_utf cs to k j := by
  rw [hq, own_utf, if_pos h, if_neg, ht]
  rw [ht]
  intro q
  rw [q] at hj
  exact hj (by decide)
theorem own_nb1 (h0 : ¬ i < (0 : Int32)) (h1 : i < to) (h2 : ¬ (8 : Int32) < to) (hk : to.toInt - i.toInt ≤ (k + 1 : Nat)) : ¬ (i + (1 : Int32)) < (0 : Int32) ∧ ¬ to < (i + (1 : Int32)) ∧ to.toInt - (i + (1 : Int32)).toInt ≤ k := by
  have e1 := c_iadd i 1
  have r1 := rng32 (i + 1)
  simp only [Int32.lt_iff_toInt_lt, show (0 : Int32).toInt = 0 by decide, show (1 : Int32).toInt = 1 by decide, show (8 : Int32).toInt = 8 by decide] at *
  omega
theorem own_nbn (h0 : ¬ i < (0 : Int32)) (h1 : i < to) (h2 : ¬ (8 : Int32) < to) (hk : to.toInt - i.toInt ≤ (k + 1 : Nat)) (hg : n < (to - i)) (a : 0 ≤ n.toInt) (b : n.toInt ≤ 3) (c : m.toInt = n.toInt + 1) : ¬ (i + m) < (0 : Int32) ∧ ¬ to < (i + m) ∧ to.toInt - (i + m).toInt ≤ k := by
  have e1 := c_isub to i
  have e2 := c_iadd i m
  have r1 := rng32 (to - i)
  have r2 := rng32 (i + m)
  simp only [Int32.lt_iff_toInt_lt, show (0 : Int32).toInt = 0 by decide, show (8 : Int32).toInt = 8 by decide] at *
  omega
theorem own_le8 (h0 : ¬ i < (0 : Int32)) (h2 : ¬ (8 : Int32) < to) : to.toInt - i.toInt ≤ (8 : Nat) := by
  simp only [Int32.lt_iff_toInt_lt, show (0 : Int32).toInt = 0 by decide, show (8 : Int32).toInt = 8 by decide] at *
  omega
end OwnLoop

def rm3Q (Z : State) (cs : List Int32) (p1 p2 : Int32) (h0 : Heap) (n0 : Nat) (v : Option Value) (h : Heap) (L : List Loc) : Prop := v = some (.int (own_utf cs p2 8 p1)) ∧ Fr n0 L ∧ h = h0
set_option maxRecDepth 65536 in
set_option maxHeartbeats 40000000 in
theorem rm3 (l : Launch) (Z : State) (aw : Array Value) (hw : ∀ d ∈ tables_1, d.before aw Z = true) (ws : List Jvm.Cond) (o0 : Addr) (p1 : Int32) (p2 : Int32) (cs : List Int32) (k0 : ClassId) (h0 : Heap) (n0 : Nat) (Z0 : n0 ≤ h0.size) (V_a : Arv Z h0 o0 k0 .byte (8 : Int32) (cs.map Value.int) (.int (0 : Int32))) (hi0 : ¬ p1 < (0 : Int32)) (hi3 : ¬ p2 < p1) (hi2 : ¬ (8 : Int32) < p2) :
    MetFree l (⟨"com/example/kazalo/kazalo/records/EncodingFaults", "isUtf8", "([BII)Z"⟩ : MethodName) (head1 (Jvm.Cond.code (⟨"com/example/kazalo/kazalo/records/EncodingFaults", "isUtf8", "([BII)Z"⟩ : MethodName) prog_55_method_6_code 11 (some .boolean) :: ws) ({ frames := 0, cells := 0, slots := 0, locals := 0 } : Room)) (fun a U => a = #[(.ref o0), (.int p1), (.int p2)] ∧ Z.Warmed39 U.vm ∧ U.heap = h0) (fun _ _ _ _ _ => True) (fun _ U o U' => ∃ v L, o = .returned v ∧ rm3Q Z cs p1 p2 h0 n0 v U'.heap L ∧ FrameEnd U o U' L ({ frames := 0, cells := 0, slots := 0, locals := 0 } : Room).cells ({ frames := 0, cells := 0, slots := 0, locals := 0 } : Room).slots) := by
  refine MetFree.of_bodySF (plainFor_of_name pn_3) hisR ?_
  intro p e s m args below meth c s₁ Bd hml0 hP hK
  obtain ⟨rfl, hZ, hh⟩ := hP
  have hx := Bd.exec
  have hby := Bd.bytes
  have hml : c.maxLocals = 11 := hml0
  have hown : s.vm.findClass "com/example/kazalo/kazalo/records/EncodingFaults" = some m.cls := findClass_of_methodNamed Bd.named
  have hnm := (name_of_methodNamed Bd.named Bd.method).1
  have X0 : Stand p l e ({ frames := 0, cells := 0, slots := 0, locals := 0 } : Room) s m #[(.ref o0), (.int p1), (.int p2)] below meth c s₁ [] 0 0 := Stand.of_body Bd
  have e0 : s₁.heap = h0 := by rw [← hh, Bd.state]; rfl
  have N0 := Fr.nil n0
  have pre0 : ∀ t, Steps p.tables e below (s₁.setTop (mkF m 0 #[.val (.ref o0), .val (.int p1), .val (.int p2), .unset, .unset, .unset, .unset, .unset, .unset, .unset, .unset] [])) t → Steps p.tables e below (s₁.setTop (entryFrame m #[(.ref o0), (.int p1), (.int p2)] 11)) t := fun t k => castTop (ef_rm3 m o0 p1 p2) k
  have pre1 : ∀ t, Steps p.tables e below (s₁.setTop (mkF m 2 #[.val (.ref o0), .val (.int p1), .val (.int p2), .val (.int p1), .unset, .unset, .unset, .unset, .unset, .unset, .unset] [])) t → Steps p.tables e below (s₁.setTop (entryFrame m #[(.ref o0), (.int p1), (.int p2)] 11)) t := fun t k => pre0 t (by
    show Steps p.tables e below (s₁.setTop (mkF m 0 #[.val (.ref o0), .val (.int p1), .val (.int p2), .unset, .unset, .unset, .unset, .unset, .unset, .unset, .unset] [])) _
    refine XS.iloadN X0.here hx rfl (hb hby d3_0) rfl ?_
    show Steps p.tables e below (s₁.setTop (mkF m 1 #[.val (.ref o0), .val (.int p1), .val (.int p2), .unset, .unset, .unset, .unset, .unset, .unset, .unset, .unset] [(.int p1)])) _
    refine XS.istoreN X0.here hx rfl (hb hby d3_1) rfl (l' := #[.val (.ref o0), .val (.int p1), .val (.int p2), .val (.int p1), .unset, .unset, .unset, .unset, .unset, .unset, .unset]) rfl ?_
    exact k)
  obtain ⟨r, hr0⟩ : ∃ z : Int32, z = own_utf cs p2 8 p1 := ⟨_, rfl⟩
  obtain ⟨fs, hr, hrun, hended, hW, hsame⟩ := X0.leave (v := some (.int r)) (fun h => by rw [Bd.returns] at h; cases h)
  have loop : ∀ (k : Nat) (i : Int32) (s4 s5 s6 s7 s8 s9 s10 : Slot), One s4 → One s5 → One s6 → One s7 → One s8 → One s9 → One s10 → ¬ i < (0 : Int32) → ¬ p2 < i → p2.toInt - i.toInt ≤ k → r = own_utf cs p2 k i → Steps p.tables e below (s₁.setTop (mkF m 2 #[.val (.ref o0), .val (.int p1), .val (.int p2), .val (.int i), s4, s5, s6, s7, s8, s9, s10] [])) (s₁.setFrames fs) := by
    intro k
    induction k with
    | zero =>
      intro i s4 s5 s6 s7 s8 s9 s10 hs4 hs5 hs6 hs7 hs8 hs9 hs10 hi0 hi3 hk hq
      have hlt : ¬ i < p2 := own_z hk
      have pZ : ∀ t, Steps p.tables e below (s₁.setTop (mkF m 2 #[.val (.ref o0), .val (.int p1), .val (.int p2), .val (.int i), s4, s5, s6, s7, s8, s9, s10] [])) t → Steps p.tables e below (s₁.setTop (mkF m 2 #[.val (.ref o0), .val (.int p1), .val (.int p2), .val (.int i), s4, s5, s6, s7, s8, s9, s10] [])) t := fun t k => k
      have hrv : r = (1 : Int32) := own_end hlt hq
      rw [hrv] at hr
      refine pZ _ ?_
      show Steps p.tables e below (s₁.setTop (mkF m 2 #[.val (.ref o0), .val (.int p1), .val (.int p2), .val (.int i), s4, s5, s6, s7, s8, s9, s10] [])) _
      refine XS.iloadN X0.here hx rfl (hb hby d3_2) rfl ?_
      show Steps p.tables e below (s₁.setTop (mkF m 3 #[.val (.ref o0), .val (.int p1), .val (.int p2), .val (.int i), s4, s5, s6, s7, s8, s9, s10] [(.int i)])) _
      refine XS.iloadN X0.here hx rfl (hb hby d3_3) rfl ?_
      show Steps p.tables e below (s₁.setTop (mkF m 4 #[.val (.ref o0), .val (.int p1), .val (.int p2), .val (.int i), s4, s5, s6, s7, s8, s9, s10] [(.int p2), (.int i)])) _
      refine XS.icmpYes X0.here hx rfl (pc0 := 4) (pc' := 260) rfl (hb hby d3_4) rfl (flt (hlt : ¬ (i < p2))).2.1 (by decide) (by decide) ?_
      show Steps p.tables e below (s₁.setTop (mkF m 260 #[.val (.ref o0), .val (.int p1), .val (.int p2), .val (.int i), s4, s5, s6, s7, s8, s9, s10] [])) _
      refine XS.iconst X0.here hx rfl (hb hby d3_260) ?_
      show Steps p.tables e below (s₁.setTop (mkF m 261 #[.val (.ref o0), .val (.int p1), .val (.int p2), .val (.int i), s4, s5, s6, s7, s8, s9, s10] [(.int (1 : Int32))])) _
      exact retN X0 hx (t := .boolean) Bd.returns (by simp) (hb hby d3_261) hr
    | succ k ih =>
      intro i s4 s5 s6 s7 s8 s9 s10 hs4 hs5 hs6 hs7 hs8 hs9 hs10 hi0 hi3 hk hq
      have pZ : ∀ t, Steps p.tables e below (s₁.setTop (mkF m 2 #[.val (.ref o0), .val (.int p1), .val (.int p2), .val (.int i), s4, s5, s6, s7, s8, s9, s10] [])) t → Steps p.tables e below (s₁.setTop (mkF m 2 #[.val (.ref o0), .val (.int p1), .val (.int p2), .val (.int i), s4, s5, s6, s7, s8, s9, s10] [])) t := fun t k => k
      by_cases hlt : i < p2
      · obtain ⟨cl2, Ar2, q2, S2, N2', H2, G2⟩ := id V_a
        have hin2 : ¬ (i < 0 ∨ cl2.slots.size ≤ (i).toNatClampNeg) := inb_of S2 (own_in0 hi0 hlt hi2)
        have pre3 : ∀ t, Steps p.tables e below (s₁.setTop (mkF m 14 #[.val (.ref o0), .val (.int p1), .val (.int p2), .val (.int i), .val (.int (own_at cs i)), s5, s6, s7, s8, s9, s10] [(.int (own_at cs i))])) t → Steps p.tables e below (s₁.setTop (mkF m 2 #[.val (.ref o0), .val (.int p1), .val (.int p2), .val (.int i), s4, s5, s6, s7, s8, s9, s10] [])) t := fun t k => pZ t (by
          show Steps p.tables e below (s₁.setTop (mkF m 2 #[.val (.ref o0), .val (.int p1), .val (.int p2), .val (.int i), s4, s5, s6, s7, s8, s9, s10] [])) _
          refine XS.iloadN X0.here hx rfl (hb hby d3_2) rfl ?_
          show Steps p.tables e below (s₁.setTop (mkF m 3 #[.val (.ref o0), .val (.int p1), .val (.int p2), .val (.int i), s4, s5, s6, s7, s8, s9, s10] [(.int i)])) _
          refine XS.iloadN X0.here hx rfl (hb hby d3_3) rfl ?_
          show Steps p.tables e below (s₁.setTop (mkF m 4 #[.val (.ref o0), .val (.int p1), .val (.int p2), .val (.int i), s4, s5, s6, s7, s8, s9, s10] [(.int p2), (.int i)])) _
          refine XS.icmpNo X0.here hx rfl (hb hby d3_4) rfl (tlt (hlt : i < p2)).2.1 ?_
          show Steps p.tables e below (s₁.setTop (mkF m 7 #[.val (.ref o0), .val (.int p1), .val (.int p2), .val (.int i), s4, s5, s6, s7, s8, s9, s10] [])) _
          refine XS.aloadN X0.here hx rfl (hb hby d3_7) rfl rfl ?_
          show Steps p.tables e below (s₁.setTop (mkF m 8 #[.val (.ref o0), .val (.int p1), .val (.int p2), .val (.int i), s4, s5, s6, s7, s8, s9, s10] [(.ref o0)])) _
          refine XS.iloadN X0.here hx rfl (hb hby d3_8) rfl ?_
          show Steps p.tables e below (s₁.setTop (mkF m 9 #[.val (.ref o0), .val (.int p1), .val (.int p2), .val (.int i), s4, s5, s6, s7, s8, s9, s10] [(.int i), (.ref o0)])) _
          refine X0.baloadBytes hx (j := i) (v := (.int (own_at cs i))) (by rw [e0]; exact Ar2.1) (State.isArrayOf_alike hZ.alike Ar2.2.1) Ar2.2.2 hin2 (H2.at hin2 (own_getD cs _)) (g := (mkF m 9 #[.val (.ref o0), .val (.int p1), .val (.int p2), .val (.int i), s4, s5, s6, s7, s8, s9, s10] [(.int i), (.ref o0)])) rfl rfl (hb hby d3_9) _ ?_
          show Steps p.tables e below (s₁.setTop (mkF m 10 #[.val (.ref o0), .val (.int p1), .val (.int p2), .val (.int i), s4, s5, s6, s7, s8, s9, s10] [(.int (own_at cs i))])) _
          refine XS.istore X0.here hx rfl (hb hby d3_10) rfl (l' := #[.val (.ref o0), .val (.int p1), .val (.int p2), .val (.int i), .val (.int (own_at cs i)), s5, s6, s7, s8, s9, s10]) (XS.store1 rfl hs4 rfl) ?_
          show Steps p.tables e below (s₁.setTop (mkF m 12 #[.val (.ref o0), .val (.int p1), .val (.int p2), .val (.int i), .val (.int (own_at cs i)), s5, s6, s7, s8, s9, s10] [])) _
          refine XS.iload X0.here hx rfl (hb hby d3_12) rfl ?_
          exact k)
        by_cases hc14_4 : (own_at cs i) < (0 : Int32)
        · have pre5 : ∀ t, Steps p.tables e below (s₁.setTop (mkF m 46 #[.val (.ref o0), .val (.int p1), .val (.int p2), .val (.int i), .val (.int ((own_at cs i) &&& (255 : Int32))), s5, .val (.int (128 : Int32)), .val (.int (191 : Int32)), s8, s9, s10] [(.int (194 : Int32)), (.int ((own_at cs i) &&& (255 : Int32)))])) t → Steps p.tables e below (s₁.setTop (mkF m 2 #[.val (.ref o0), .val (.int p1), .val (.int p2), .val (.int i), s4, s5, s6, s7, s8, s9, s10] [])) t := fun t k => pre3 t (by
            show Steps p.tables e below (s₁.setTop (mkF m 14 #[.val (.ref o0), .val (.int p1), .val (.int p2), .val (.int i), .val (.int (own_at cs i)), s5, s6, s7, s8, s9, s10] [(.int (own_at cs i))])) _
            refine XS.ifYes X0.here hx rfl (pc0 := 14) (pc' := 23) rfl (hb hby d3_14) rfl ((if0 _ _).trans (tlt hc14_4).1) (by decide) (by decide) ?_
            show Steps p.tables e below (s₁.setTop (mkF m 23 #[.val (.ref o0), .val (.int p1), .val (.int p2), .val (.int i), .val (.int (own_at cs i)), s5, s6, s7, s8, s9, s10] [])) _
            refine XS.iload X0.here hx rfl (hb hby d3_23) rfl ?_
            show Steps p.tables e below (s₁.setTop (mkF m 25 #[.val (.ref o0), .val (.int p1), .val (.int p2), .val (.int i), .val (.int (own_at cs i)), s5, s6, s7, s8, s9, s10] [(.int (own_at cs i))])) _
            refine XS.sipush X0.here hx rfl (hb hby d3_25) ?_
            show Steps p.tables e below (s₁.setTop (mkF m 28 #[.val (.ref o0), .val (.int p1), .val (.int p2), .val (.int i), .val (.int (own_at cs i)), s5, s6, s7, s8, s9, s10] [(.int (255 : Int32)), (.int (own_at cs i))])) _
            refine XS.iand X0.here hx rfl (hb hby d3_28) rfl ?_
            show Steps p.tables e below (s₁.setTop (mkF m 29 #[.val (.ref o0), .val (.int p1), .val (.int p2), .val (.int i), .val (.int (own_at cs i)), s5, s6, s7, s8, s9, s10] [(.int ((own_at cs i) &&& (255 : Int32)))])) _
            refine XS.istore X0.here hx rfl (hb hby d3_29) rfl (l' := #[.val (.ref o0), .val (.int p1), .val (.int p2), .val (.int i), .val (.int ((own_at cs i) &&& (255 : Int32))), s5, s6, s7, s8, s9, s10]) rfl ?_
            show Steps p.tables e below (s₁.setTop (mkF m 31 #[.val (.ref o0), .val (.int p1), .val (.int p2), .val (.int i), .val (.int ((own_at cs i) &&& (255 : Int32))), s5, s6, s7, s8, s9, s10] [])) _
            refine XS.sipush X0.here hx rfl (hb hby d3_31) ?_
            show Steps p.tables e below (s₁.setTop (mkF m 34 #[.val (.ref o0), .val (.int p1), .val (.int p2), .val (.int i), .val (.int ((own_at cs i) &&& (255 : Int32))), s5, s6, s7, s8, s9, s10] [(.int (128 : Int32))])) _
            refine XS.istore X0.here hx rfl (hb hby d3_34) rfl (l' := #[.val (.ref o0), .val (.int p1), .val (.int p2), .val (.int i), .val (.int ((own_at cs i) &&& (255 : Int32))), s5, .val (.int (128 : Int32)), s7, s8, s9, s10]) (XS.store1 rfl hs6 rfl) ?_
            show Steps p.tables e below (s₁.setTop (mkF m 36 #[.val (.ref o0), .val (.int p1), .val (.int p2), .val (.int i), .val (.int ((own_at cs i) &&& (255 : Int32))), s5, .val (.int (128 : Int32)), s7, s8, s9, s10] [])) _
            refine XS.sipush X0.here hx rfl (hb hby d3_36) ?_
            show Steps p.tables e below (s₁.setTop (mkF m 39 #[.val (.ref o0), .val (.int p1), .val (.int p2), .val (.int i), .val (.int ((own_at cs i) &&& (255 : Int32))), s5, .val (.int (128 : Int32)), s7, s8, s9, s10] [(.int (191 : Int32))])) _
            refine XS.istore X0.here hx rfl (hb hby d3_39) rfl (l' := #[.val (.ref o0), .val (.int p1), .val (.int p2), .val (.int i), .val (.int ((own_at cs i) &&& (255 : Int32))), s5, .val (.int (128 : Int32)), .val (.int (191 : Int32)), s8, s9, s10]) (XS.store1 rfl hs7 rfl) ?_
            show Steps p.tables e below (s₁.setTop (mkF m 41 #[.val (.ref o0), .val (.int p1), .val (.int p2), .val (.int i), .val (.int ((own_at cs i) &&& (255 : Int32))), s5, .val (.int (128 : Int32)), .val (.int (191 : Int32)), s8, s9, s10] [])) _
            refine XS.iload X0.here hx rfl (hb hby d3_41) rfl ?_
            show Steps p.tables e below (s₁.setTop (mkF m 43 #[.val (.ref o0), .val (.int p1), .val (.int p2), .val (.int i), .val (.int ((own_at cs i) &&& (255 : Int32))), s5, .val (.int (128 : Int32)), .val (.int (191 : Int32)), s8, s9, s10] [(.int ((own_at cs i) &&& (255 : Int32)))])) _
            refine XS.sipush X0.here hx rfl (hb hby d3_43) ?_
            exact k)
          by_cases hc46_6 : ((own_at cs i) &&& (255 : Int32)) < (194 : Int32)
          · have hrv : r = (0 : Int32) := own_stop hlt (show own_turn cs p2 i = (-1 : Int32) from by simp only [own_turn, if_pos hc14_4, if_pos hc46_6]) hq
            rw [hrv] at hr
            refine pre5 _ ?_
            show Steps p.tables e below (s₁.setTop (mkF m 46 #[.val (.ref o0), .val (.int p1), .val (.int p2), .val (.int i), .val (.int ((own_at cs i) &&& (255 : Int32))), s5, .val (.int (128 : Int32)), .val (.int (191 : Int32)), s8, s9, s10] [(.int (194 : Int32)), (.int ((own_at cs i) &&& (255 : Int32)))])) _
            refine XS.icmpYes X0.here hx rfl (pc0 := 46) (pc' := 63) rfl (hb hby d3_46) rfl (tlt hc46_6).1 (by decide) (by decide) ?_
            show Steps p.tables e below (s₁.setTop (mkF m 63 #[.val (.ref o0), .val (.int p1), .val (.int p2), .val (.int i), .val (.int ((own_at cs i) &&& (255 : Int32))), s5, .val (.int (128 : Int32)), .val (.int (191 : Int32)), s8, s9, s10] [])) _
            refine XS.iload X0.here hx rfl (hb hby d3_63) rfl ?_
            show Steps p.tables e below (s₁.setTop (mkF m 65 #[.val (.ref o0), .val (.int p1), .val (.int p2), .val (.int i), .val (.int ((own_at cs i) &&& (255 : Int32))), s5, .val (.int (128 : Int32)), .val (.int (191 : Int32)), s8, s9, s10] [(.int ((own_at cs i) &&& (255 : Int32)))])) _
            refine XS.sipush X0.here hx rfl (hb hby d3_65) ?_
            show Steps p.tables e below (s₁.setTop (mkF m 68 #[.val (.ref o0), .val (.int p1), .val (.int p2), .val (.int i), .val (.int ((own_at cs i) &&& (255 : Int32))), s5, .val (.int (128 : Int32)), .val (.int (191 : Int32)), s8, s9, s10] [(.int (224 : Int32)), (.int ((own_at cs i) &&& (255 : Int32)))])) _
            refine XS.icmpYes X0.here hx rfl (pc0 := 68) (pc' := 114) rfl (hb hby d3_68) rfl (tlt (own_ltT hc46_6 (by decide) : ((own_at cs i) &&& (255 : Int32)) < (224 : Int32))).1 (by decide) (by decide) ?_
            show Steps p.tables e below (s₁.setTop (mkF m 114 #[.val (.ref o0), .val (.int p1), .val (.int p2), .val (.int i), .val (.int ((own_at cs i) &&& (255 : Int32))), s5, .val (.int (128 : Int32)), .val (.int (191 : Int32)), s8, s9, s10] [])) _
            refine XS.iload X0.here hx rfl (hb hby d3_114) rfl ?_
            show Steps p.tables e below (s₁.setTop (mkF m 116 #[.val (.ref o0), .val (.int p1), .val (.int p2), .val (.int i), .val (.int ((own_at cs i) &&& (255 : Int32))), s5, .val (.int (128 : Int32)), .val (.int (191 : Int32)), s8, s9, s10] [(.int ((own_at cs i) &&& (255 : Int32)))])) _
            refine XS.sipush X0.here hx rfl (hb hby d3_116) ?_
            show Steps p.tables e below (s₁.setTop (mkF m 119 #[.val (.ref o0), .val (.int p1), .val (.int p2), .val (.int i), .val (.int ((own_at cs i) &&& (255 : Int32))), s5, .val (.int (128 : Int32)), .val (.int (191 : Int32)), s8, s9, s10] [(.int (240 : Int32)), (.int ((own_at cs i) &&& (255 : Int32)))])) _
            refine XS.icmpYes X0.here hx rfl (pc0 := 119) (pc' := 165) rfl (hb hby d3_119) rfl (tlt (own_ltT hc46_6 (by decide) : ((own_at cs i) &&& (255 : Int32)) < (240 : Int32))).1 (by decide) (by decide) ?_
            show Steps p.tables e below (s₁.setTop (mkF m 165 #[.val (.ref o0), .val (.int p1), .val (.int p2), .val (.int i), .val (.int ((own_at cs i) &&& (255 : Int32))), s5, .val (.int (128 : Int32)), .val (.int (191 : Int32)), s8, s9, s10] [])) _
            refine XS.iconst X0.here hx rfl (hb hby d3_165) ?_
            show Steps p.tables e below (s₁.setTop (mkF m 166 #[.val (.ref o0), .val (.int p1), .val (.int p2), .val (.int i), .val (.int ((own_at cs i) &&& (255 : Int32))), s5, .val (.int (128 : Int32)), .val (.int (191 : Int32)), s8, s9, s10] [(.int (0 : Int32))])) _
            exact retN X0 hx (t := .boolean) Bd.returns (by simp) (hb hby d3_166) hr
          · have pre7 : ∀ t, Steps p.tables e below (s₁.setTop (mkF m 54 #[.val (.ref o0), .val (.int p1), .val (.int p2), .val (.int i), .val (.int ((own_at cs i) &&& (255 : Int32))), s5, .val (.int (128 : Int32)), .val (.int (191 : Int32)), s8, s9, s10] [(.int (223 : Int32)), (.int ((own_at cs i) &&& (255 : Int32)))])) t → Steps p.tables e below (s₁.setTop (mkF m 2 #[.val (.ref o0), .val (.int p1), .val (.int p2), .val (.int i), s4, s5, s6, s7, s8, s9, s10] [])) t := fun t k => pre5 t (by
              show Steps p.tables e below (s₁.setTop (mkF m 46 #[.val (.ref o0), .val (.int p1), .val (.int p2), .val (.int i), .val (.int ((own_at cs i) &&& (255 : Int32))), s5, .val (.int (128 : Int32)), .val (.int (191 : Int32)), s8, s9, s10] [(.int (194 : Int32)), (.int ((own_at cs i) &&& (255 : Int32)))])) _
              refine XS.icmpNo X0.here hx rfl (hb hby d3_46) rfl (flt hc46_6).1 ?_
              show Steps p.tables e below (s₁.setTop (mkF m 49 #[.val (.ref o0), .val (.int p1), .val (.int p2), .val (.int i), .val (.int ((own_at cs i) &&& (255 : Int32))), s5, .val (.int (128 : Int32)), .val (.int (191 : Int32)), s8, s9, s10] [])) _
              refine XS.iload X0.here hx rfl (hb hby d3_49) rfl ?_
              show Steps p.tables e below (s₁.setTop (mkF m 51 #[.val (.ref o0), .val (.int p1), .val (.int p2), .val (.int i), .val (.int ((own_at cs i) &&& (255 : Int32))), s5, .val (.int (128 : Int32)), .val (.int (191 : Int32)), s8, s9, s10] [(.int ((own_at cs i) &&& (255 : Int32)))])) _
              refine XS.sipush X0.here hx rfl (hb hby d3_51) ?_
              exact k)
            by_cases hc54_8 : (223 : Int32) < ((own_at cs i) &&& (255 : Int32))
            · have pre9 : ∀ t, Steps p.tables e below (s₁.setTop (mkF m 76 #[.val (.ref o0), .val (.int p1), .val (.int p2), .val (.int i), .val (.int ((own_at cs i) &&& (255 : Int32))), s5, .val (.int (128 : Int32)), .val (.int (191 : Int32)), s8, s9, s10] [(.int (239 : Int32)), (.int ((own_at cs i) &&& (255 : Int32)))])) t → Steps p.tables e below (s₁.setTop (mkF m 2 #[.val (.ref o0), .val (.int p1), .val (.int p2), .val (.int i), s4, s5, s6, s7, s8, s9, s10] [])) t := fun t k => pre7 t (by
                show Steps p.tables e below (s₁.setTop (mkF m 54 #[.val (.ref o0), .val (.int p1), .val (.int p2), .val (.int i), .val (.int ((own_at cs i) &&& (255 : Int32))), s5, .val (.int (128 : Int32)), .val (.int (191 : Int32)), s8, s9, s10] [(.int (223 : Int32)), (.int ((own_at cs i) &&& (255 : Int32)))])) _
                refine XS.icmpYes X0.here hx rfl (pc0 := 54) (pc' := 63) rfl (hb hby d3_54) rfl (tlt hc54_8).2.2.1 (by decide) (by decide) ?_
                show Steps p.tables e below (s₁.setTop (mkF m 63 #[.val (.ref o0), .val (.int p1), .val (.int p2), .val (.int i), .val (.int ((own_at cs i) &&& (255 : Int32))), s5, .val (.int (128 : Int32)), .val (.int (191 : Int32)), s8, s9, s10] [])) _
                refine XS.iload X0.here hx rfl (hb hby d3_63) rfl ?_
                show Steps p.tables e below (s₁.setTop (mkF m 65 #[.val (.ref o0), .val (.int p1), .val (.int p2), .val (.int i), .val (.int ((own_at cs i) &&& (255 : Int32))), s5, .val (.int (128 : Int32)), .val (.int (191 : Int32)), s8, s9, s10] [(.int ((own_at cs i) &&& (255 : Int32)))])) _
                refine XS.sipush X0.here hx rfl (hb hby d3_65) ?_
                show Steps p.tables e below (s₁.setTop (mkF m 68 #[.val (.ref o0), .val (.int p1), .val (.int p2), .val (.int i), .val (.int ((own_at cs i) &&& (255 : Int32))), s5, .val (.int (128 : Int32)), .val (.int (191 : Int32)), s8, s9, s10] [(.int (224 : Int32)), (.int ((own_at cs i) &&& (255 : Int32)))])) _
                refine XS.icmpNo X0.here hx rfl (hb hby d3_68) rfl (flt (own_ltF' hc54_8 (by decide) : ¬ (((own_at cs i) &&& (255 : Int32)) < (224 : Int32)))).1 ?_
                show Steps p.tables e below (s₁.setTop (mkF m 71 #[.val (.ref o0), .val (.int p1), .val (.int p2), .val (.int i), .val (.int ((own_at cs i) &&& (255 : Int32))), s5, .val (.int (128 : Int32)), .val (.int (191 : Int32)), s8, s9, s10] [])) _
                refine XS.iload X0.here hx rfl (hb hby d3_71) rfl ?_
                show Steps p.tables e below (s₁.setTop (mkF m 73 #[.val (.ref o0), .val (.int p1), .val (.int p2), .val (.int i), .val (.int ((own_at cs i) &&& (255 : Int32))), s5, .val (.int (128 : Int32)), .val (.int (191 : Int32)), s8, s9, s10] [(.int ((own_at cs i) &&& (255 : Int32)))])) _
                refine XS.sipush X0.here hx rfl (hb hby d3_73) ?_
                exact k)
              by_cases hc76_10 : (239 : Int32) < ((own_at cs i) &&& (255 : Int32))
              · have pre11 : ∀ t, Steps p.tables e below (s₁.setTop (mkF m 127 #[.val (.ref o0), .val (.int p1), .val (.int p2), .val (.int i), .val (.int ((own_at cs i) &&& (255 : Int32))), s5, .val (.int (128 : Int32)), .val (.int (191 : Int32)), s8, s9, s10] [(.int (244 : Int32)), (.int ((own_at cs i) &&& (255 : Int32)))])) t → Steps p.tables e below (s₁.setTop (mkF m 2 #[.val (.ref o0), .val (.int p1), .val (.int p2), .val (.int i), s4, s5, s6, s7, s8, s9, s10] [])) t := fun t k => pre9 t (by
                  show Steps p.tables e below (s₁.setTop (mkF m 76 #[.val (.ref o0), .val (.int p1), .val (.int p2), .val (.int i), .val (.int ((own_at cs i) &&& (255 : Int32))), s5, .val (.int (128 : Int32)), .val (.int (191 : Int32)), s8, s9, s10] [(.int (239 : Int32)), (.int ((own_at cs i) &&& (255 : Int32)))])) _
                  refine XS.icmpYes X0.here hx rfl (pc0 := 76) (pc' := 114) rfl (hb hby d3_76) rfl (tlt hc76_10).2.2.1 (by decide) (by decide) ?_
                  show Steps p.tables e below (s₁.setTop (mkF m 114 #[.val (.ref o0), .val (.int p1), .val (.int p2), .val (.int i), .val (.int ((own_at cs i) &&& (255 : Int32))), s5, .val (.int (128 : Int32)), .val (.int (191 : Int32)), s8, s9, s10] [])) _
                  refine XS.iload X0.here hx rfl (hb hby d3_114) rfl ?_
                  show Steps p.tables e below (s₁.setTop (mkF m 116 #[.val (.ref o0), .val (.int p1), .val (.int p2), .val (.int i), .val (.int ((own_at cs i) &&& (255 : Int32))), s5, .val (.int (128 : Int32)), .val (.int (191 : Int32)), s8, s9, s10] [(.int ((own_at cs i) &&& (255 : Int32)))])) _
                  refine XS.sipush X0.here hx rfl (hb hby d3_116) ?_
                  show Steps p.tables e below (s₁.setTop (mkF m 119 #[.val (.ref o0), .val (.int p1), .val (.int p2), .val (.int i), .val (.int ((own_at cs i) &&& (255 : Int32))), s5, .val (.int (128 : Int32)), .val (.int (191 : Int32)), s8, s9, s10] [(.int (240 : Int32)), (.int ((own_at cs i) &&& (255 : Int32)))])) _
                  refine XS.icmpNo X0.here hx rfl (hb hby d3_119) rfl (flt (own_ltF' hc76_10 (by decide) : ¬ (((own_at cs i) &&& (255 : Int32)) < (240 : Int32)))).1 ?_
                  show Steps p.tables e below (s₁.setTop (mkF m 122 #[.val (.ref o0), .val (.int p1), .val (.int p2), .val (.int i), .val (.int ((own_at cs i) &&& (255 : Int32))), s5, .val (.int (128 : Int32)), .val (.int (191 : Int32)), s8, s9, s10] [])) _
                  refine XS.iload X0.here hx rfl (hb hby d3_122) rfl ?_
                  show Steps p.tables e below (s₁.setTop (mkF m 124 #[.val (.ref o0), .val (.int p1), .val (.int p2), .val (.int i), .val (.int ((own_at cs i) &&& (255 : Int32))), s5, .val (.int (128 : Int32)), .val (.int (191 : Int32)), s8, s9, s10] [(.int ((own_at cs i) &&& (255 : Int32)))])) _
                  refine XS.sipush X0.here hx rfl (hb hby d3_124) ?_
                  exact k)
                by_cases hc127_12 : (244 : Int32) < ((own_at cs i) &&& (255 : Int32))
                · have hrv : r = (0 : Int32) := own_stop hlt (show own_turn cs p2 i = (-1 : Int32) from by simp only [own_turn, if_pos hc14_4, if_neg hc46_6, if_pos hc54_8, if_pos hc76_10, if_pos hc127_12]) hq
                  rw [hrv] at hr
                  refine pre11 _ ?_
                  show Steps p.tables e below (s₁.setTop (mkF m 127 #[.val (.ref o0), .val (.int p1), .val (.int p2), .val (.int i), .val (.int ((own_at cs i) &&& (255 : Int32))), s5, .val (.int (128 : Int32)), .val (.int (191 : Int32)), s8, s9, s10] [(.int (244 : Int32)), (.int ((own_at cs i) &&& (255 : Int32)))])) _
                  refine XS.icmpYes X0.here hx rfl (pc0 := 127) (pc' := 165) rfl (hb hby d3_127) rfl (tlt hc127_12).2.2.1 (by decide) (by decide) ?_
                  show Steps p.tables e below (s₁.setTop (mkF m 165 #[.val (.ref o0), .val (.int p1), .val (.int p2), .val (.int i), .val (.int ((own_at cs i) &&& (255 : Int32))), s5, .val (.int (128 : Int32)), .val (.int (191 : Int32)), s8, s9, s10] [])) _
                  refine XS.iconst X0.here hx rfl (hb hby d3_165) ?_
                  show Steps p.tables e below (s₁.setTop (mkF m 166 #[.val (.ref o0), .val (.int p1), .val (.int p2), .val (.int i), .val (.int ((own_at cs i) &&& (255 : Int32))), s5, .val (.int (128 : Int32)), .val (.int (191 : Int32)), s8, s9, s10] [(.int (0 : Int32))])) _
                  exact retN X0 hx (t := .boolean) Bd.returns (by simp) (hb hby d3_166) hr
                · have pre13 : ∀ t, Steps p.tables e below (s₁.setTop (mkF m 133 #[.val (.ref o0), .val (.int p1), .val (.int p2), .val (.int i), .val (.int ((own_at cs i) &&& (255 : Int32))), .val (.int (3 : Int32)), .val (.int (128 : Int32)), .val (.int (191 : Int32)), s8, s9, s10] [])) t → Steps p.tables e below (s₁.setTop (mkF m 2 #[.val (.ref o0), .val (.int p1), .val (.int p2), .val (.int i), s4, s5, s6, s7, s8, s9, s10] [])) t := fun t k => pre11 t (by
                    show Steps p.tables e below (s₁.setTop (mkF m 127 #[.val (.ref o0), .val (.int p1), .val (.int p2), .val (.int i), .val (.int ((own_at cs i) &&& (255 : Int32))), s5, .val (.int (128 : Int32)), .val (.int (191 : Int32)), s8, s9, s10] [(.int (244 : Int32)), (.int ((own_at cs i) &&& (255 : Int32)))])) _
                    refine XS.icmpNo X0.here hx rfl (hb hby d3_127) rfl (flt hc127_12).2.2.1 ?_
                    show Steps p.tables e below (s₁.setTop (mkF m 130 #[.val (.ref o0), .val (.int p1), .val (.int p2), .val (.int i), .val (.int ((own_at cs i) &&& (255 : Int32))), s5, .val (.int (128 : Int32)), .val (.int (191 : Int32)), s8, s9, s10] [])) _
                    refine XS.iconst X0.here hx rfl (hb hby d3_130) ?_
                    show Steps p.tables e below (s₁.setTop (mkF m 131 #[.val (.ref o0), .val (.int p1), .val (.int p2), .val (.int i), .val (.int ((own_at cs i) &&& (255 : Int32))), s5, .val (.int (128 : Int32)), .val (.int (191 : Int32)), s8, s9, s10] [(.int (3 : Int32))])) _
                    refine XS.istore X0.here hx rfl (hb hby d3_131) rfl (l' := #[.val (.ref o0), .val (.int p1), .val (.int p2), .val (.int i), .val (.int ((own_at cs i) &&& (255 : Int32))), .val (.int (3 : Int32)), .val (.int (128 : Int32)), .val (.int (191 : Int32)), s8, s9, s10]) (XS.store1 rfl hs5 rfl) ?_
                    exact k)
                  have pre14 : ∀ t, Steps p.tables e below (s₁.setTop (mkF m 167 #[.val (.ref o0), .val (.int p1), .val (.int p2), .val (.int i), .val (.int ((own_at cs i) &&& (255 : Int32))), .val (.int (3 : Int32)), .val (.int (own_lo3 cs p2 i)), .val (.int (own_hi3 cs p2 i)), s8, s9, s10] [])) t → Steps p.tables e below (s₁.setTop (mkF m 2 #[.val (.ref o0), .val (.int p1), .val (.int p2), .val (.int i), s4, s5, s6, s7, s8, s9, s10] [])) t := by
                    have pre15 : ∀ t, Steps p.tables e below (s₁.setTop (mkF m 138 #[.val (.ref o0), .val (.int p1), .val (.int p2), .val (.int i), .val (.int ((own_at cs i) &&& (255 : Int32))), .val (.int (3 : Int32)), .val (.int (128 : Int32)), .val (.int (191 : Int32)), s8, s9, s10] [(.int (240 : Int32)), (.int ((own_at cs i) &&& (255 : Int32)))])) t → Steps p.tables e below (s₁.setTop (mkF m 2 #[.val (.ref o0), .val (.int p1), .val (.int p2), .val (.int i), s4, s5, s6, s7, s8, s9, s10] [])) t := fun t k => pre13 t (by
                      show Steps p.tables e below (s₁.setTop (mkF m 133 #[.val (.ref o0), .val (.int p1), .val (.int p2), .val (.int i), .val (.int ((own_at cs i) &&& (255 : Int32))), .val (.int (3 : Int32)), .val (.int (128 : Int32)), .val (.int (191 : Int32)), s8, s9, s10] [])) _
                      refine XS.iload X0.here hx rfl (hb hby d3_133) rfl ?_
                      show Steps p.tables e below (s₁.setTop (mkF m 135 #[.val (.ref o0), .val (.int p1), .val (.int p2), .val (.int i), .val (.int ((own_at cs i) &&& (255 : Int32))), .val (.int (3 : Int32)), .val (.int (128 : Int32)), .val (.int (191 : Int32)), s8, s9, s10] [(.int ((own_at cs i) &&& (255 : Int32)))])) _
                      refine XS.sipush X0.here hx rfl (hb hby d3_135) ?_
                      exact k)
                    by_cases hc138_16 : ((own_at cs i) &&& (255 : Int32)) = (240 : Int32)
                    · rw [show (own_lo3 cs p2 i) = (144 : Int32) from by simp only [own_lo3, if_pos hc138_16]]
                      rw [show (own_hi3 cs p2 i) = (191 : Int32) from by simp only [own_hi3, if_pos hc138_16]]
                      exact fun t k => pre15 t (by
                        show Steps p.tables e below (s₁.setTop (mkF m 138 #[.val (.ref o0), .val (.int p1), .val (.int p2), .val (.int i), .val (.int ((own_at cs i) &&& (255 : Int32))), .val (.int (3 : Int32)), .val (.int (128 : Int32)), .val (.int (191 : Int32)), s8, s9, s10] [(.int (240 : Int32)), (.int ((own_at cs i) &&& (255 : Int32)))])) _
                        refine XS.icmpNo X0.here hx rfl (hb hby d3_138) rfl (teq hc138_16).2 ?_
                        show Steps p.tables e below (s₁.setTop (mkF m 141 #[.val (.ref o0), .val (.int p1), .val (.int p2), .val (.int i), .val (.int ((own_at cs i) &&& (255 : Int32))), .val (.int (3 : Int32)), .val (.int (128 : Int32)), .val (.int (191 : Int32)), s8, s9, s10] [])) _
                        refine XS.sipush X0.here hx rfl (hb hby d3_141) ?_
                        show Steps p.tables e below (s₁.setTop (mkF m 144 #[.val (.ref o0), .val (.int p1), .val (.int p2), .val (.int i), .val (.int ((own_at cs i) &&& (255 : Int32))), .val (.int (3 : Int32)), .val (.int (128 : Int32)), .val (.int (191 : Int32)), s8, s9, s10] [(.int (144 : Int32))])) _
                        refine XS.istore X0.here hx rfl (hb hby d3_144) rfl (l' := #[.val (.ref o0), .val (.int p1), .val (.int p2), .val (.int i), .val (.int ((own_at cs i) &&& (255 : Int32))), .val (.int (3 : Int32)), .val (.int (144 : Int32)), .val (.int (191 : Int32)), s8, s9, s10]) rfl ?_
                        show Steps p.tables e below (s₁.setTop (mkF m 146 #[.val (.ref o0), .val (.int p1), .val (.int p2), .val (.int i), .val (.int ((own_at cs i) &&& (255 : Int32))), .val (.int (3 : Int32)), .val (.int (144 : Int32)), .val (.int (191 : Int32)), s8, s9, s10] [])) _
                        refine XS.goto X0.here hx rfl (pc0 := 146) (pc' := 167) rfl (hb hby d3_146) (by decide) (by decide) ?_
                        exact k)
                    · have pre17 : ∀ t, Steps p.tables e below (s₁.setTop (mkF m 154 #[.val (.ref o0), .val (.int p1), .val (.int p2), .val (.int i), .val (.int ((own_at cs i) &&& (255 : Int32))), .val (.int (3 : Int32)), .val (.int (128 : Int32)), .val (.int (191 : Int32)), s8, s9, s10] [(.int (244 : Int32)), (.int ((own_at cs i) &&& (255 : Int32)))])) t → Steps p.tables e below (s₁.setTop (mkF m 2 #[.val (.ref o0), .val (.int p1), .val (.int p2), .val (.int i), s4, s5, s6, s7, s8, s9, s10] [])) t := fun t k => pre15 t (by
                        show Steps p.tables e below (s₁.setTop (mkF m 138 #[.val (.ref o0), .val (.int p1), .val (.int p2), .val (.int i), .val (.int ((own_at cs i) &&& (255 : Int32))), .val (.int (3 : Int32)), .val (.int (128 : Int32)), .val (.int (191 : Int32)), s8, s9, s10] [(.int (240 : Int32)), (.int ((own_at cs i) &&& (255 : Int32)))])) _
                        refine XS.icmpYes X0.here hx rfl (pc0 := 138) (pc' := 149) rfl (hb hby d3_138) rfl (feq hc138_16).2 (by decide) (by decide) ?_
                        show Steps p.tables e below (s₁.setTop (mkF m 149 #[.val (.ref o0), .val (.int p1), .val (.int p2), .val (.int i), .val (.int ((own_at cs i) &&& (255 : Int32))), .val (.int (3 : Int32)), .val (.int (128 : Int32)), .val (.int (191 : Int32)), s8, s9, s10] [])) _
                        refine XS.iload X0.here hx rfl (hb hby d3_149) rfl ?_
                        show Steps p.tables e below (s₁.setTop (mkF m 151 #[.val (.ref o0), .val (.int p1), .val (.int p2), .val (.int i), .val (.int ((own_at cs i) &&& (255 : Int32))), .val (.int (3 : Int32)), .val (.int (128 : Int32)), .val (.int (191 : Int32)), s8, s9, s10] [(.int ((own_at cs i) &&& (255 : Int32)))])) _
                        refine XS.sipush X0.here hx rfl (hb hby d3_151) ?_
                        exact k)
                      by_cases hc154_18 : ((own_at cs i) &&& (255 : Int32)) = (244 : Int32)
                      · rw [show (own_lo3 cs p2 i) = (128 : Int32) from by simp only [own_lo3, if_neg hc138_16, if_pos hc154_18]]
                        rw [show (own_hi3 cs p2 i) = (143 : Int32) from by simp only [own_hi3, if_neg hc138_16, if_pos hc154_18]]
                        exact fun t k => pre17 t (by
                          show Steps p.tables e below (s₁.setTop (mkF m 154 #[.val (.ref o0), .val (.int p1), .val (.int p2), .val (.int i), .val (.int ((own_at cs i) &&& (255 : Int32))), .val (.int (3 : Int32)), .val (.int (128 : Int32)), .val (.int (191 : Int32)), s8, s9, s10] [(.int (244 : Int32)), (.int ((own_at cs i) &&& (255 : Int32)))])) _
                          refine XS.icmpNo X0.here hx rfl (hb hby d3_154) rfl (teq hc154_18).2 ?_
                          show Steps p.tables e below (s₁.setTop (mkF m 157 #[.val (.ref o0), .val (.int p1), .val (.int p2), .val (.int i), .val (.int ((own_at cs i) &&& (255 : Int32))), .val (.int (3 : Int32)), .val (.int (128 : Int32)), .val (.int (191 : Int32)), s8, s9, s10] [])) _
                          refine XS.sipush X0.here hx rfl (hb hby d3_157) ?_
                          show Steps p.tables e below (s₁.setTop (mkF m 160 #[.val (.ref o0), .val (.int p1), .val (.int p2), .val (.int i), .val (.int ((own_at cs i) &&& (255 : Int32))), .val (.int (3 : Int32)), .val (.int (128 : Int32)), .val (.int (191 : Int32)), s8, s9, s10] [(.int (143 : Int32))])) _
                          refine XS.istore X0.here hx rfl (hb hby d3_160) rfl (l' := #[.val (.ref o0), .val (.int p1), .val (.int p2), .val (.int i), .val (.int ((own_at cs i) &&& (255 : Int32))), .val (.int (3 : Int32)), .val (.int (128 : Int32)), .val (.int (143 : Int32)), s8, s9, s10]) rfl ?_
                          show Steps p.tables e below (s₁.setTop (mkF m 162 #[.val (.ref o0), .val (.int p1), .val (.int p2), .val (.int i), .val (.int ((own_at cs i) &&& (255 : Int32))), .val (.int (3 : Int32)), .val (.int (128 : Int32)), .val (.int (143 : Int32)), s8, s9, s10] [])) _
                          refine XS.goto X0.here hx rfl (pc0 := 162) (pc' := 167) rfl (hb hby d3_162) (by decide) (by decide) ?_
                          exact k)
                      · rw [show (own_lo3 cs p2 i) = (128 : Int32) from by simp only [own_lo3, if_neg hc138_16, if_neg hc154_18]]
                        rw [show (own_hi3 cs p2 i) = (191 : Int32) from by simp only [own_hi3, if_neg hc138_16, if_neg hc154_18]]
                        exact fun t k => pre17 t (by
                          show Steps p.tables e below (s₁.setTop (mkF m 154 #[.val (.ref o0), .val (.int p1), .val (.int p2), .val (.int i), .val (.int ((own_at cs i) &&& (255 : Int32))), .val (.int (3 : Int32)), .val (.int (128 : Int32)), .val (.int (191 : Int32)), s8, s9, s10] [(.int (244 : Int32)), (.int ((own_at cs i) &&& (255 : Int32)))])) _
                          refine XS.icmpYes X0.here hx rfl (pc0 := 154) (pc' := 167) rfl (hb hby d3_154) rfl (feq hc154_18).2 (by decide) (by decide) ?_
                          exact k)
                  have pre19 : ∀ t, Steps p.tables e below (s₁.setTop (mkF m 172 #[.val (.ref o0), .val (.int p1), .val (.int p2), .val (.int i), .val (.int ((own_at cs i) &&& (255 : Int32))), .val (.int (3 : Int32)), .val (.int (own_lo3 cs p2 i)), .val (.int (own_hi3 cs p2 i)), s8, s9, s10] [(.int (3 : Int32)), (.int (p2 - i))])) t → Steps p.tables e below (s₁.setTop (mkF m 2 #[.val (.ref o0), .val (.int p1), .val (.int p2), .val (.int i), s4, s5, s6, s7, s8, s9, s10] [])) t := fun t k => pre14 t (by
                    show Steps p.tables e below (s₁.setTop (mkF m 167 #[.val (.ref o0), .val (.int p1), .val (.int p2), .val (.int i), .val (.int ((own_at cs i) &&& (255 : Int32))), .val (.int (3 : Int32)), .val (.int (own_lo3 cs p2 i)), .val (.int (own_hi3 cs p2 i)), s8, s9, s10] [])) _
                    refine XS.iloadN X0.here hx rfl (hb hby d3_167) rfl ?_
                    show Steps p.tables e below (s₁.setTop (mkF m 168 #[.val (.ref o0), .val (.int p1), .val (.int p2), .val (.int i), .val (.int ((own_at cs i) &&& (255 : Int32))), .val (.int (3 : Int32)), .val (.int (own_lo3 cs p2 i)), .val (.int (own_hi3 cs p2 i)), s8, s9, s10] [(.int p2)])) _
                    refine XS.iloadN X0.here hx rfl (hb hby d3_168) rfl ?_
                    show Steps p.tables e below (s₁.setTop (mkF m 169 #[.val (.ref o0), .val (.int p1), .val (.int p2), .val (.int i), .val (.int ((own_at cs i) &&& (255 : Int32))), .val (.int (3 : Int32)), .val (.int (own_lo3 cs p2 i)), .val (.int (own_hi3 cs p2 i)), s8, s9, s10] [(.int i), (.int p2)])) _
                    refine XS.isub X0.here hx rfl (hb hby d3_169) rfl ?_
                    show Steps p.tables e below (s₁.setTop (mkF m 170 #[.val (.ref o0), .val (.int p1), .val (.int p2), .val (.int i), .val (.int ((own_at cs i) &&& (255 : Int32))), .val (.int (3 : Int32)), .val (.int (own_lo3 cs p2 i)), .val (.int (own_hi3 cs p2 i)), s8, s9, s10] [(.int (p2 - i))])) _
                    refine XS.iload X0.here hx rfl (hb hby d3_170) rfl ?_
                    exact k)
                  by_cases hc172_20 : (3 : Int32) < (p2 - i)
                  · obtain ⟨cl21, Ar21, q21, S21, N21', H21, G21⟩ := id V_a
                    have hin21 : ¬ ((i + (1 : Int32)) < 0 ∨ cl21.slots.size ≤ ((i + (1 : Int32))).toNatClampNeg) := inb_of S21 (own_inU (n := (3 : Int32)) (k := (1 : Int32)) hi0 hlt hi2 hc172_20 (by decide) (by decide) (by decide))
                    have pre22 : ∀ t, Steps p.tables e below (s₁.setTop (mkF m 192 #[.val (.ref o0), .val (.int p1), .val (.int p2), .val (.int i), .val (.int ((own_at cs i) &&& (255 : Int32))), .val (.int (3 : Int32)), .val (.int (own_lo3 cs p2 i)), .val (.int (own_hi3 cs p2 i)), .val (.int ((own_at cs (i + (1 : Int32))) &&& (255 : Int32))), s9, s10] [(.int (own_lo3 cs p2 i)), (.int ((own_at cs (i + (1 : Int32))) &&& (255 : Int32)))])) t → Steps p.tables e below (s₁.setTop (mkF m 2 #[.val (.ref o0), .val (.int p1), .val (.int p2), .val (.int i), s4, s5, s6, s7, s8, s9, s10] [])) t := fun t k => pre19 t (by
                      show Steps p.tables e below (s₁.setTop (mkF m 172 #[.val (.ref o0), .val (.int p1), .val (.int p2), .val (.int i), .val (.int ((own_at cs i) &&& (255 : Int32))), .val (.int (3 : Int32)), .val (.int (own_lo3 cs p2 i)), .val (.int (own_hi3 cs p2 i)), s8, s9, s10] [(.int (3 : Int32)), (.int (p2 - i))])) _
                      refine XS.icmpYes X0.here hx rfl (pc0 := 172) (pc' := 177) rfl (hb hby d3_172) rfl (tlt hc172_20).2.2.1 (by decide) (by decide) ?_
                      show Steps p.tables e below (s₁.setTop (mkF m 177 #[.val (.ref o0), .val (.int p1), .val (.int p2), .val (.int i), .val (.int ((own_at cs i) &&& (255 : Int32))), .val (.int (3 : Int32)), .val (.int (own_lo3 cs p2 i)), .val (.int (own_hi3 cs p2 i)), s8, s9, s10] [])) _
                      refine XS.aloadN X0.here hx rfl (hb hby d3_177) rfl rfl ?_
                      show Steps p.tables e below (s₁.setTop (mkF m 178 #[.val (.ref o0), .val (.int p1), .val (.int p2), .val (.int i), .val (.int ((own_at cs i) &&& (255 : Int32))), .val (.int (3 : Int32)), .val (.int (own_lo3 cs p2 i)), .val (.int (own_hi3 cs p2 i)), s8, s9, s10] [(.ref o0)])) _
                      refine XS.iloadN X0.here hx rfl (hb hby d3_178) rfl ?_
                      show Steps p.tables e below (s₁.setTop (mkF m 179 #[.val (.ref o0), .val (.int p1), .val (.int p2), .val (.int i), .val (.int ((own_at cs i) &&& (255 : Int32))), .val (.int (3 : Int32)), .val (.int (own_lo3 cs p2 i)), .val (.int (own_hi3 cs p2 i)), s8, s9, s10] [(.int i), (.ref o0)])) _
                      refine XS.iconst X0.here hx rfl (hb hby d3_179) ?_
                      show Steps p.tables e below (s₁.setTop (mkF m 180 #[.val (.ref o0), .val (.int p1), .val (.int p2), .val (.int i), .val (.int ((own_at cs i) &&& (255 : Int32))), .val (.int (3 : Int32)), .val (.int (own_lo3 cs p2 i)), .val (.int (own_hi3 cs p2 i)), s8, s9, s10] [(.int (1 : Int32)), (.int i), (.ref o0)])) _
                      refine XS.iadd X0.here hx rfl (hb hby d3_180) rfl ?_
                      show Steps p.tables e below (s₁.setTop (mkF m 181 #[.val (.ref o0), .val (.int p1), .val (.int p2), .val (.int i), .val (.int ((own_at cs i) &&& (255 : Int32))), .val (.int (3 : Int32)), .val (.int (own_lo3 cs p2 i)), .val (.int (own_hi3 cs p2 i)), s8, s9, s10] [(.int (i + (1 : Int32))), (.ref o0)])) _
                      refine X0.baloadBytes hx (j := (i + (1 : Int32))) (v := (.int (own_at cs (i + (1 : Int32))))) (by rw [e0]; exact Ar21.1) (State.isArrayOf_alike hZ.alike Ar21.2.1) Ar21.2.2 hin21 (H21.at hin21 (own_getD cs _)) (g := (mkF m 181 #[.val (.ref o0), .val (.int p1), .val (.int p2), .val (.int i), .val (.int ((own_at cs i) &&& (255 : Int32))), .val (.int (3 : Int32)), .val (.int (own_lo3 cs p2 i)), .val (.int (own_hi3 cs p2 i)), s8, s9, s10] [(.int (i + (1 : Int32))), (.ref o0)])) rfl rfl (hb hby d3_181) _ ?_
                      show Steps p.tables e below (s₁.setTop (mkF m 182 #[.val (.ref o0), .val (.int p1), .val (.int p2), .val (.int i), .val (.int ((own_at cs i) &&& (255 : Int32))), .val (.int (3 : Int32)), .val (.int (own_lo3 cs p2 i)), .val (.int (own_hi3 cs p2 i)), s8, s9, s10] [(.int (own_at cs (i + (1 : Int32))))])) _
                      refine XS.sipush X0.here hx rfl (hb hby d3_182) ?_
                      show Steps p.tables e below (s₁.setTop (mkF m 185 #[.val (.ref o0), .val (.int p1), .val (.int p2), .val (.int i), .val (.int ((own_at cs i) &&& (255 : Int32))), .val (.int (3 : Int32)), .val (.int (own_lo3 cs p2 i)), .val (.int (own_hi3 cs p2 i)), s8, s9, s10] [(.int (255 : Int32)), (.int (own_at cs (i + (1 : Int32))))])) _
                      refine XS.iand X0.here hx rfl (hb hby d3_185) rfl ?_
                      show Steps p.tables e below (s₁.setTop (mkF m 186 #[.val (.ref o0), .val (.int p1), .val (.int p2), .val (.int i), .val (.int ((own_at cs i) &&& (255 : Int32))), .val (.int (3 : Int32)), .val (.int (own_lo3 cs p2 i)), .val (.int (own_hi3 cs p2 i)), s8, s9, s10] [(.int ((own_at cs (i + (1 : Int32))) &&& (255 : Int32)))])) _
                      refine XS.istore X0.here hx rfl (hb hby d3_186) rfl (l' := #[.val (.ref o0), .val (.int p1), .val (.int p2), .val (.int i), .val (.int ((own_at cs i) &&& (255 : Int32))), .val (.int (3 : Int32)), .val (.int (own_lo3 cs p2 i)), .val (.int (own_hi3 cs p2 i)), .val (.int ((own_at cs (i + (1 : Int32))) &&& (255 : Int32))), s9, s10]) (XS.store1 rfl hs8 rfl) ?_
                      show Steps p.tables e below (s₁.setTop (mkF m 188 #[.val (.ref o0), .val (.int p1), .val (.int p2), .val (.int i), .val (.int ((own_at cs i) &&& (255 : Int32))), .val (.int (3 : Int32)), .val (.int (own_lo3 cs p2 i)), .val (.int (own_hi3 cs p2 i)), .val (.int ((own_at cs (i + (1 : Int32))) &&& (255 : Int32))), s9, s10] [])) _
                      refine XS.iload X0.here hx rfl (hb hby d3_188) rfl ?_
                      show Steps p.tables e below (s₁.setTop (mkF m 190 #[.val (.ref o0), .val (.int p1), .val (.int p2), .val (.int i), .val (.int ((own_at cs i) &&& (255 : Int32))), .val (.int (3 : Int32)), .val (.int (own_lo3 cs p2 i)), .val (.int (own_hi3 cs p2 i)), .val (.int ((own_at cs (i + (1 : Int32))) &&& (255 : Int32))), s9, s10] [(.int ((own_at cs (i + (1 : Int32))) &&& (255 : Int32)))])) _
                      refine XS.iload X0.here hx rfl (hb hby d3_190) rfl ?_
                      exact k)
                    by_cases hc192_23 : ((own_at cs (i + (1 : Int32))) &&& (255 : Int32)) < (own_lo3 cs p2 i)
                    · have hrv : r = (0 : Int32) := own_stop hlt (show own_turn cs p2 i = (-1 : Int32) from by simp only [own_turn, if_pos hc14_4, if_neg hc46_6, if_pos hc54_8, if_pos hc76_10, if_neg hc127_12, if_pos hc172_20, if_pos hc192_23]) hq
                      rw [hrv] at hr
                      refine pre22 _ ?_
                      show Steps p.tables e below (s₁.setTop (mkF m 192 #[.val (.ref o0), .val (.int p1), .val (.int p2), .val (.int i), .val (.int ((own_at cs i) &&& (255 : Int32))), .val (.int (3 : Int32)), .val (.int (own_lo3 cs p2 i)), .val (.int (own_hi3 cs p2 i)), .val (.int ((own_at cs (i + (1 : Int32))) &&& (255 : Int32))), s9, s10] [(.int (own_lo3 cs p2 i)), (.int ((own_at cs (i + (1 : Int32))) &&& (255 : Int32)))])) _
                      refine XS.icmpYes X0.here hx rfl (pc0 := 192) (pc' := 202) rfl (hb hby d3_192) rfl (tlt hc192_23).1 (by decide) (by decide) ?_
                      show Steps p.tables e below (s₁.setTop (mkF m 202 #[.val (.ref o0), .val (.int p1), .val (.int p2), .val (.int i), .val (.int ((own_at cs i) &&& (255 : Int32))), .val (.int (3 : Int32)), .val (.int (own_lo3 cs p2 i)), .val (.int (own_hi3 cs p2 i)), .val (.int ((own_at cs (i + (1 : Int32))) &&& (255 : Int32))), s9, s10] [])) _
                      refine XS.iconst X0.here hx rfl (hb hby d3_202) ?_
                      show Steps p.tables e below (s₁.setTop (mkF m 203 #[.val (.ref o0), .val (.int p1), .val (.int p2), .val (.int i), .val (.int ((own_at cs i) &&& (255 : Int32))), .val (.int (3 : Int32)), .val (.int (own_lo3 cs p2 i)), .val (.int (own_hi3 cs p2 i)), .val (.int ((own_at cs (i + (1 : Int32))) &&& (255 : Int32))), s9, s10] [(.int (0 : Int32))])) _
                      exact retN X0 hx (t := .boolean) Bd.returns (by simp) (hb hby d3_203) hr
                    · have pre24 : ∀ t, Steps p.tables e below (s₁.setTop (mkF m 199 #[.val (.ref o0), .val (.int p1), .val (.int p2), .val (.int i), .val (.int ((own_at cs i) &&& (255 : Int32))), .val (.int (3 : Int32)), .val (.int (own_lo3 cs p2 i)), .val (.int (own_hi3 cs p2 i)), .val (.int ((own_at cs (i + (1 : Int32))) &&& (255 : Int32))), s9, s10] [(.int (own_hi3 cs p2 i)), (.int ((own_at cs (i + (1 : Int32))) &&& (255 : Int32)))])) t → Steps p.tables e below (s₁.setTop (mkF m 2 #[.val (.ref o0), .val (.int p1), .val (.int p2), .val (.int i), s4, s5, s6, s7, s8, s9, s10] [])) t := fun t k => pre22 t (by
                        show Steps p.tables e below (s₁.setTop (mkF m 192 #[.val (.ref o0), .val (.int p1), .val (.int p2), .val (.int i), .val (.int ((own_at cs i) &&& (255 : Int32))), .val (.int (3 : Int32)), .val (.int (own_lo3 cs p2 i)), .val (.int (own_hi3 cs p2 i)), .val (.int ((own_at cs (i + (1 : Int32))) &&& (255 : Int32))), s9, s10] [(.int (own_lo3 cs p2 i)), (.int ((own_at cs (i + (1 : Int32))) &&& (255 : Int32)))])) _
                        refine XS.icmpNo X0.here hx rfl (hb hby d3_192) rfl (flt hc192_23).1 ?_
                        show Steps p.tables e below (s₁.setTop (mkF m 195 #[.val (.ref o0), .val (.int p1), .val (.int p2), .val (.int i), .val (.int ((own_at cs i) &&& (255 : Int32))), .val (.int (3 : Int32)), .val (.int (own_lo3 cs p2 i)), .val (.int (own_hi3 cs p2 i)), .val (.int ((own_at cs (i + (1 : Int32))) &&& (255 : Int32))), s9, s10] [])) _
                        refine XS.iload X0.here hx rfl (hb hby d3_195) rfl ?_
                        show Steps p.tables e below (s₁.setTop (mkF m 197 #[.val (.ref o0), .val (.int p1), .val (.int p2), .val (.int i), .val (.int ((own_at cs i) &&& (255 : Int32))), .val (.int (3 : Int32)), .val (.int (own_lo3 cs p2 i)), .val (.int (own_hi3 cs p2 i)), .val (.int ((own_at cs (i + (1 : Int32))) &&& (255 : Int32))), s9, s10] [(.int ((own_at cs (i + (1 : Int32))) &&& (255 : Int32)))])) _
                        refine XS.iload X0.here hx rfl (hb hby d3_197) rfl ?_
                        exact k)
                      by_cases hc199_25 : (own_hi3 cs p2 i) < ((own_at cs (i + (1 : Int32))) &&& (255 : Int32))
                      · have hrv : r = (0 : Int32) := own_stop hlt (show own_turn cs p2 i = (-1 : Int32) from by simp only [own_turn, if_pos hc14_4, if_neg hc46_6, if_pos hc54_8, if_pos hc76_10, if_neg hc127_12, if_pos hc172_20, if_neg hc192_23, if_pos hc199_25]) hq
                        rw [hrv] at hr
                        refine pre24 _ ?_
                        show Steps p.tables e below (s₁.setTop (mkF m 199 #[.val (.ref o0), .val (.int p1), .val (.int p2), .val (.int i), .val (.int ((own_at cs i) &&& (255 : Int32))), .val (.int (3 : Int32)), .val (.int (own_lo3 cs p2 i)), .val (.int (own_hi3 cs p2 i)), .val (.int ((own_at cs (i + (1 : Int32))) &&& (255 : Int32))), s9, s10] [(.int (own_hi3 cs p2 i)), (.int ((own_at cs (i + (1 : Int32))) &&& (255 : Int32)))])) _
                        refine XS.icmpNo X0.here hx rfl (hb hby d3_199) rfl (tlt hc199_25).2.2.2 ?_
                        show Steps p.tables e below (s₁.setTop (mkF m 202 #[.val (.ref o0), .val (.int p1), .val (.int p2), .val (.int i), .val (.int ((own_at cs i) &&& (255 : Int32))), .val (.int (3 : Int32)), .val (.int (own_lo3 cs p2 i)), .val (.int (own_hi3 cs p2 i)), .val (.int ((own_at cs (i + (1 : Int32))) &&& (255 : Int32))), s9, s10] [])) _
                        refine XS.iconst X0.here hx rfl (hb hby d3_202) ?_
                        show Steps p.tables e below (s₁.setTop (mkF m 203 #[.val (.ref o0), .val (.int p1), .val (.int p2), .val (.int i), .val (.int ((own_at cs i) &&& (255 : Int32))), .val (.int (3 : Int32)), .val (.int (own_lo3 cs p2 i)), .val (.int (own_hi3 cs p2 i)), .val (.int ((own_at cs (i + (1 : Int32))) &&& (255 : Int32))), s9, s10] [(.int (0 : Int32))])) _
                        exact retN X0 hx (t := .boolean) Bd.returns (by simp) (hb hby d3_203) hr
                      · obtain ⟨cl26, Ar26, q26, S26, N26', H26, G26⟩ := id V_a
                        have hin26 : ¬ ((i + (2 : Int32)) < 0 ∨ cl26.slots.size ≤ ((i + (2 : Int32))).toNatClampNeg) := inb_of S26 (own_inU (n := (3 : Int32)) (k := (2 : Int32)) hi0 hlt hi2 hc172_20 (by decide) (by decide) (by decide))
                        have pre27 : ∀ t, Steps p.tables e below (s₁.setTop (mkF m 231 #[.val (.ref o0), .val (.int p1), .val (.int p2), .val (.int i), .val (.int ((own_at cs i) &&& (255 : Int32))), .val (.int (3 : Int32)), .val (.int (own_lo3 cs p2 i)), .val (.int (own_hi3 cs p2 i)), .val (.int ((own_at cs (i + (1 : Int32))) &&& (255 : Int32))), .val (.int (2 : Int32)), .val (.int ((own_at cs (i + (2 : Int32))) &&& (255 : Int32)))] [(.int (128 : Int32)), (.int ((own_at cs (i + (2 : Int32))) &&& (255 : Int32)))])) t → Steps p.tables e below (s₁.setTop (mkF m 2 #[.val (.ref o0), .val (.int p1), .val (.int p2), .val (.int i), s4, s5, s6, s7, s8, s9, s10] [])) t := fun t k => pre24 t (by
                          show Steps p.tables e below (s₁.setTop (mkF m 199 #[.val (.ref o0), .val (.int p1), .val (.int p2), .val (.int i), .val (.int ((own_at cs i) &&& (255 : Int32))), .val (.int (3 : Int32)), .val (.int (own_lo3 cs p2 i)), .val (.int (own_hi3 cs p2 i)), .val (.int ((own_at cs (i + (1 : Int32))) &&& (255 : Int32))), s9, s10] [(.int (own_hi3 cs p2 i)), (.int ((own_at cs (i + (1 : Int32))) &&& (255 : Int32)))])) _
                          refine XS.icmpYes X0.here hx rfl (pc0 := 199) (pc' := 204) rfl (hb hby d3_199) rfl (flt hc199_25).2.2.2 (by decide) (by decide) ?_
                          show Steps p.tables e below (s₁.setTop (mkF m 204 #[.val (.ref o0), .val (.int p1), .val (.int p2), .val (.int i), .val (.int ((own_at cs i) &&& (255 : Int32))), .val (.int (3 : Int32)), .val (.int (own_lo3 cs p2 i)), .val (.int (own_hi3 cs p2 i)), .val (.int ((own_at cs (i + (1 : Int32))) &&& (255 : Int32))), s9, s10] [])) _
                          refine XS.iconst X0.here hx rfl (hb hby d3_204) ?_
                          show Steps p.tables e below (s₁.setTop (mkF m 205 #[.val (.ref o0), .val (.int p1), .val (.int p2), .val (.int i), .val (.int ((own_at cs i) &&& (255 : Int32))), .val (.int (3 : Int32)), .val (.int (own_lo3 cs p2 i)), .val (.int (own_hi3 cs p2 i)), .val (.int ((own_at cs (i + (1 : Int32))) &&& (255 : Int32))), s9, s10] [(.int (2 : Int32))])) _
                          refine XS.istore X0.here hx rfl (hb hby d3_205) rfl (l' := #[.val (.ref o0), .val (.int p1), .val (.int p2), .val (.int i), .val (.int ((own_at cs i) &&& (255 : Int32))), .val (.int (3 : Int32)), .val (.int (own_lo3 cs p2 i)), .val (.int (own_hi3 cs p2 i)), .val (.int ((own_at cs (i + (1 : Int32))) &&& (255 : Int32))), .val (.int (2 : Int32)), s10]) (XS.store1 rfl hs9 rfl) ?_
                          show Steps p.tables e below (s₁.setTop (mkF m 207 #[.val (.ref o0), .val (.int p1), .val (.int p2), .val (.int i), .val (.int ((own_at cs i) &&& (255 : Int32))), .val (.int (3 : Int32)), .val (.int (own_lo3 cs p2 i)), .val (.int (own_hi3 cs p2 i)), .val (.int ((own_at cs (i + (1 : Int32))) &&& (255 : Int32))), .val (.int (2 : Int32)), s10] [])) _
                          refine XS.iload X0.here hx rfl (hb hby d3_207) rfl ?_
                          show Steps p.tables e below (s₁.setTop (mkF m 209 #[.val (.ref o0), .val (.int p1), .val (.int p2), .val (.int i), .val (.int ((own_at cs i) &&& (255 : Int32))), .val (.int (3 : Int32)), .val (.int (own_lo3 cs p2 i)), .val (.int (own_hi3 cs p2 i)), .val (.int ((own_at cs (i + (1 : Int32))) &&& (255 : Int32))), .val (.int (2 : Int32)), s10] [(.int (2 : Int32))])) _
                          refine XS.iload X0.here hx rfl (hb hby d3_209) rfl ?_
                          show Steps p.tables e below (s₁.setTop (mkF m 211 #[.val (.ref o0), .val (.int p1), .val (.int p2), .val (.int i), .val (.int ((own_at cs i) &&& (255 : Int32))), .val (.int (3 : Int32)), .val (.int (own_lo3 cs p2 i)), .val (.int (own_hi3 cs p2 i)), .val (.int ((own_at cs (i + (1 : Int32))) &&& (255 : Int32))), .val (.int (2 : Int32)), s10] [(.int (3 : Int32)), (.int (2 : Int32))])) _
                          refine XS.icmpNo X0.here hx rfl (hb hby d3_211) rfl (flt ((by decide) : ¬ ((3 : Int32) < (2 : Int32)))).2.2.1 ?_
                          show Steps p.tables e below (s₁.setTop (mkF m 214 #[.val (.ref o0), .val (.int p1), .val (.int p2), .val (.int i), .val (.int ((own_at cs i) &&& (255 : Int32))), .val (.int (3 : Int32)), .val (.int (own_lo3 cs p2 i)), .val (.int (own_hi3 cs p2 i)), .val (.int ((own_at cs (i + (1 : Int32))) &&& (255 : Int32))), .val (.int (2 : Int32)), s10] [])) _
                          refine XS.aloadN X0.here hx rfl (hb hby d3_214) rfl rfl ?_
                          show Steps p.tables e below (s₁.setTop (mkF m 215 #[.val (.ref o0), .val (.int p1), .val (.int p2), .val (.int i), .val (.int ((own_at cs i) &&& (255 : Int32))), .val (.int (3 : Int32)), .val (.int (own_lo3 cs p2 i)), .val (.int (own_hi3 cs p2 i)), .val (.int ((own_at cs (i + (1 : Int32))) &&& (255 : Int32))), .val (.int (2 : Int32)), s10] [(.ref o0)])) _
                          refine XS.iloadN X0.here hx rfl (hb hby d3_215) rfl ?_
                          show Steps p.tables e below (s₁.setTop (mkF m 216 #[.val (.ref o0), .val (.int p1), .val (.int p2), .val (.int i), .val (.int ((own_at cs i) &&& (255 : Int32))), .val (.int (3 : Int32)), .val (.int (own_lo3 cs p2 i)), .val (.int (own_hi3 cs p2 i)), .val (.int ((own_at cs (i + (1 : Int32))) &&& (255 : Int32))), .val (.int (2 : Int32)), s10] [(.int i), (.ref o0)])) _
                          refine XS.iload X0.here hx rfl (hb hby d3_216) rfl ?_
                          show Steps p.tables e below (s₁.setTop (mkF m 218 #[.val (.ref o0), .val (.int p1), .val (.int p2), .val (.int i), .val (.int ((own_at cs i) &&& (255 : Int32))), .val (.int (3 : Int32)), .val (.int (own_lo3 cs p2 i)), .val (.int (own_hi3 cs p2 i)), .val (.int ((own_at cs (i + (1 : Int32))) &&& (255 : Int32))), .val (.int (2 : Int32)), s10] [(.int (2 : Int32)), (.int i), (.ref o0)])) _
                          refine XS.iadd X0.here hx rfl (hb hby d3_218) rfl ?_
                          show Steps p.tables e below (s₁.setTop (mkF m 219 #[.val (.ref o0), .val (.int p1), .val (.int p2), .val (.int i), .val (.int ((own_at cs i) &&& (255 : Int32))), .val (.int (3 : Int32)), .val (.int (own_lo3 cs p2 i)), .val (.int (own_hi3 cs p2 i)), .val (.int ((own_at cs (i + (1 : Int32))) &&& (255 : Int32))), .val (.int (2 : Int32)), s10] [(.int (i + (2 : Int32))), (.ref o0)])) _
                          refine X0.baloadBytes hx (j := (i + (2 : Int32))) (v := (.int (own_at cs (i + (2 : Int32))))) (by rw [e0]; exact Ar26.1) (State.isArrayOf_alike hZ.alike Ar26.2.1) Ar26.2.2 hin26 (H26.at hin26 (own_getD cs _)) (g := (mkF m 219 #[.val (.ref o0), .val (.int p1), .val (.int p2), .val (.int i), .val (.int ((own_at cs i) &&& (255 : Int32))), .val (.int (3 : Int32)), .val (.int (own_lo3 cs p2 i)), .val (.int (own_hi3 cs p2 i)), .val (.int ((own_at cs (i + (1 : Int32))) &&& (255 : Int32))), .val (.int (2 : Int32)), s10] [(.int (i + (2 : Int32))), (.ref o0)])) rfl rfl (hb hby d3_219) _ ?_
                          show Steps p.tables e below (s₁.setTop (mkF m 220 #[.val (.ref o0), .val (.int p1), .val (.int p2), .val (.int i), .val (.int ((own_at cs i) &&& (255 : Int32))), .val (.int (3 : Int32)), .val (.int (own_lo3 cs p2 i)), .val (.int (own_hi3 cs p2 i)), .val (.int ((own_at cs (i + (1 : Int32))) &&& (255 : Int32))), .val (.int (2 : Int32)), s10] [(.int (own_at cs (i + (2 : Int32))))])) _
                          refine XS.sipush X0.here hx rfl (hb hby d3_220) ?_
                          show Steps p.tables e below (s₁.setTop (mkF m 223 #[.val (.ref o0), .val (.int p1), .val (.int p2), .val (.int i), .val (.int ((own_at cs i) &&& (255 : Int32))), .val (.int (3 : Int32)), .val (.int (own_lo3 cs p2 i)), .val (.int (own_hi3 cs p2 i)), .val (.int ((own_at cs (i + (1 : Int32))) &&& (255 : Int32))), .val (.int (2 : Int32)), s10] [(.int (255 : Int32)), (.int (own_at cs (i + (2 : Int32))))])) _
                          refine XS.iand X0.here hx rfl (hb hby d3_223) rfl ?_
                          show Steps p.tables e below (s₁.setTop (mkF m 224 #[.val (.ref o0), .val (.int p1), .val (.int p2), .val (.int i), .val (.int ((own_at cs i) &&& (255 : Int32))), .val (.int (3 : Int32)), .val (.int (own_lo3 cs p2 i)), .val (.int (own_hi3 cs p2 i)), .val (.int ((own_at cs (i + (1 : Int32))) &&& (255 : Int32))), .val (.int (2 : Int32)), s10] [(.int ((own_at cs (i + (2 : Int32))) &&& (255 : Int32)))])) _
                          refine XS.istore X0.here hx rfl (hb hby d3_224) rfl (l' := #[.val (.ref o0), .val (.int p1), .val (.int p2), .val (.int i), .val (.int ((own_at cs i) &&& (255 : Int32))), .val (.int (3 : Int32)), .val (.int (own_lo3 cs p2 i)), .val (.int (own_hi3 cs p2 i)), .val (.int ((own_at cs (i + (1 : Int32))) &&& (255 : Int32))), .val (.int (2 : Int32)), .val (.int ((own_at cs (i + (2 : Int32))) &&& (255 : Int32)))]) (XS.store1 rfl hs10 rfl) ?_
                          show Steps p.tables e below (s₁.setTop (mkF m 226 #[.val (.ref o0), .val (.int p1), .val (.int p2), .val (.int i), .val (.int ((own_at cs i) &&& (255 : Int32))), .val (.int (3 : Int32)), .val (.int (own_lo3 cs p2 i)), .val (.int (own_hi3 cs p2 i)), .val (.int ((own_at cs (i + (1 : Int32))) &&& (255 : Int32))), .val (.int (2 : Int32)), .val (.int ((own_at cs (i + (2 : Int32))) &&& (255 : Int32)))] [])) _
                          refine XS.iload X0.here hx rfl (hb hby d3_226) rfl ?_
                          show Steps p.tables e below (s₁.setTop (mkF m 228 #[.val (.ref o0), .val (.int p1), .val (.int p2), .val (.int i), .val (.int ((own_at cs i) &&& (255 : Int32))), .val (.int (3 : Int32)), .val (.int (own_lo3 cs p2 i)), .val (.int (own_hi3 cs p2 i)), .val (.int ((own_at cs (i + (1 : Int32))) &&& (255 : Int32))), .val (.int (2 : Int32)), .val (.int ((own_at cs (i + (2 : Int32))) &&& (255 : Int32)))] [(.int ((own_at cs (i + (2 : Int32))) &&& (255 : Int32)))])) _
                          refine XS.sipush X0.here hx rfl (hb hby d3_228) ?_
                          exact k)
                        by_cases hc231_28 : ((own_at cs (i + (2 : Int32))) &&& (255 : Int32)) < (128 : Int32)
                        · have hrv : r = (0 : Int32) := own_stop hlt (show own_turn cs p2 i = (-1 : Int32) from by simp only [own_turn, if_pos hc14_4, if_neg hc46_6, if_pos hc54_8, if_pos hc76_10, if_neg hc127_12, if_pos hc172_20, if_neg hc192_23, if_neg hc199_25, if_pos hc231_28]) hq
                          rw [hrv] at hr
                          refine pre27 _ ?_
                          show Steps p.tables e below (s₁.setTop (mkF m 231 #[.val (.ref o0), .val (.int p1), .val (.int p2), .val (.int i), .val (.int ((own_at cs i) &&& (255 : Int32))), .val (.int (3 : Int32)), .val (.int (own_lo3 cs p2 i)), .val (.int (own_hi3 cs p2 i)), .val (.int ((own_at cs (i + (1 : Int32))) &&& (255 : Int32))), .val (.int (2 : Int32)), .val (.int ((own_at cs (i + (2 : Int32))) &&& (255 : Int32)))] [(.int (128 : Int32)), (.int ((own_at cs (i + (2 : Int32))) &&& (255 : Int32)))])) _
                          refine XS.icmpYes X0.here hx rfl (pc0 := 231) (pc' := 242) rfl (hb hby d3_231) rfl (tlt hc231_28).1 (by decide) (by decide) ?_
                          show Steps p.tables e below (s₁.setTop (mkF m 242 #[.val (.ref o0), .val (.int p1), .val (.int p2), .val (.int i), .val (.int ((own_at cs i) &&& (255 : Int32))), .val (.int (3 : Int32)), .val (.int (own_lo3 cs p2 i)), .val (.int (own_hi3 cs p2 i)), .val (.int ((own_at cs (i + (1 : Int32))) &&& (255 : Int32))), .val (.int (2 : Int32)), .val (.int ((own_at cs (i + (2 : Int32))) &&& (255 : Int32)))] [])) _
                          refine XS.iconst X0.here hx rfl (hb hby d3_242) ?_
                          show Steps p.tables e below (s₁.setTop (mkF m 243 #[.val (.ref o0), .val (.int p1), .val (.int p2), .val (.int i), .val (.int ((own_at cs i) &&& (255 : Int32))), .val (.int (3 : Int32)), .val (.int (own_lo3 cs p2 i)), .val (.int (own_hi3 cs p2 i)), .val (.int ((own_at cs (i + (1 : Int32))) &&& (255 : Int32))), .val (.int (2 : Int32)), .val (.int ((own_at cs (i + (2 : Int32))) &&& (255 : Int32)))] [(.int (0 : Int32))])) _
                          exact retN X0 hx (t := .boolean) Bd.returns (by simp) (hb hby d3_243) hr
                        · have pre29 : ∀ t, Steps p.tables e below (s₁.setTop (mkF m 239 #[.val (.ref o0), .val (.int p1), .val (.int p2), .val (.int i), .val (.int ((own_at cs i) &&& (255 : Int32))), .val (.int (3 : Int32)), .val (.int (own_lo3 cs p2 i)), .val (.int (own_hi3 cs p2 i)), .val (.int ((own_at cs (i + (1 : Int32))) &&& (255 : Int32))), .val (.int (2 : Int32)), .val (.int ((own_at cs (i + (2 : Int32))) &&& (255 : Int32)))] [(.int (191 : Int32)), (.int ((own_at cs (i + (2 : Int32))) &&& (255 : Int32)))])) t → Steps p.tables e below (s₁.setTop (mkF m 2 #[.val (.ref o0), .val (.int p1), .val (.int p2), .val (.int i), s4, s5, s6, s7, s8, s9, s10] [])) t := fun t k => pre27 t (by
                            show Steps p.tables e below (s₁.setTop (mkF m 231 #[.val (.ref o0), .val (.int p1), .val (.int p2), .val (.int i), .val (.int ((own_at cs i) &&& (255 : Int32))), .val (.int (3 : Int32)), .val (.int (own_lo3 cs p2 i)), .val (.int (own_hi3 cs p2 i)), .val (.int ((own_at cs (i + (1 : Int32))) &&& (255 : Int32))), .val (.int (2 : Int32)), .val (.int ((own_at cs (i + (2 : Int32))) &&& (255 : Int32)))] [(.int (128 : Int32)), (.int ((own_at cs (i + (2 : Int32))) &&& (255 : Int32)))])) _
                            refine XS.icmpNo X0.here hx rfl (hb hby d3_231) rfl (flt hc231_28).1 ?_
                            show Steps p.tables e below (s₁.setTop (mkF m 234 #[.val (.ref o0), .val (.int p1), .val (.int p2), .val (.int i), .val (.int ((own_at cs i) &&& (255 : Int32))), .val (.int (3 : Int32)), .val (.int (own_lo3 cs p2 i)), .val (.int (own_hi3 cs p2 i)), .val (.int ((own_at cs (i + (1 : Int32))) &&& (255 : Int32))), .val (.int (2 : Int32)), .val (.int ((own_at cs (i + (2 : Int32))) &&& (255 : Int32)))] [])) _
                            refine XS.iload X0.here hx rfl (hb hby d3_234) rfl ?_
                            show Steps p.tables e below (s₁.setTop (mkF m 236 #[.val (.ref o0), .val (.int p1), .val (.int p2), .val (.int i), .val (.int ((own_at cs i) &&& (255 : Int32))), .val (.int (3 : Int32)), .val (.int (own_lo3 cs p2 i)), .val (.int (own_hi3 cs p2 i)), .val (.int ((own_at cs (i + (1 : Int32))) &&& (255 : Int32))), .val (.int (2 : Int32)), .val (.int ((own_at cs (i + (2 : Int32))) &&& (255 : Int32)))] [(.int ((own_at cs (i + (2 : Int32))) &&& (255 : Int32)))])) _
                            refine XS.sipush X0.here hx rfl (hb hby d3_236) ?_
                            exact k)
                          by_cases hc239_30 : (191 : Int32) < ((own_at cs (i + (2 : Int32))) &&& (255 : Int32))
                          · have hrv : r = (0 : Int32) := own_stop hlt (show own_turn cs p2 i = (-1 : Int32) from by simp only [own_turn, if_pos hc14_4, if_neg hc46_6, if_pos hc54_8, if_pos hc76_10, if_neg hc127_12, if_pos hc172_20, if_neg hc192_23, if_neg hc199_25, if_neg hc231_28, if_pos hc239_30]) hq
                            rw [hrv] at hr
                            refine pre29 _ ?_
                            show Steps p.tables e below (s₁.setTop (mkF m 239 #[.val (.ref o0), .val (.int p1), .val (.int p2), .val (.int i), .val (.int ((own_at cs i) &&& (255 : Int32))), .val (.int (3 : Int32)), .val (.int (own_lo3 cs p2 i)), .val (.int (own_hi3 cs p2 i)), .val (.int ((own_at cs (i + (1 : Int32))) &&& (255 : Int32))), .val (.int (2 : Int32)), .val (.int ((own_at cs (i + (2 : Int32))) &&& (255 : Int32)))] [(.int (191 : Int32)), (.int ((own_at cs (i + (2 : Int32))) &&& (255 : Int32)))])) _
                            refine XS.icmpNo X0.here hx rfl (hb hby d3_239) rfl (tlt hc239_30).2.2.2 ?_
                            show Steps p.tables e below (s₁.setTop (mkF m 242 #[.val (.ref o0), .val (.int p1), .val (.int p2), .val (.int i), .val (.int ((own_at cs i) &&& (255 : Int32))), .val (.int (3 : Int32)), .val (.int (own_lo3 cs p2 i)), .val (.int (own_hi3 cs p2 i)), .val (.int ((own_at cs (i + (1 : Int32))) &&& (255 : Int32))), .val (.int (2 : Int32)), .val (.int ((own_at cs (i + (2 : Int32))) &&& (255 : Int32)))] [])) _
                            refine XS.iconst X0.here hx rfl (hb hby d3_242) ?_
                            show Steps p.tables e below (s₁.setTop (mkF m 243 #[.val (.ref o0), .val (.int p1), .val (.int p2), .val (.int i), .val (.int ((own_at cs i) &&& (255 : Int32))), .val (.int (3 : Int32)), .val (.int (own_lo3 cs p2 i)), .val (.int (own_hi3 cs p2 i)), .val (.int ((own_at cs (i + (1 : Int32))) &&& (255 : Int32))), .val (.int (2 : Int32)), .val (.int ((own_at cs (i + (2 : Int32))) &&& (255 : Int32)))] [(.int (0 : Int32))])) _
                            exact retN X0 hx (t := .boolean) Bd.returns (by simp) (hb hby d3_243) hr
                          · obtain ⟨cl31, Ar31, q31, S31, N31', H31, G31⟩ := id V_a
                            have hin31 : ¬ ((i + (3 : Int32)) < 0 ∨ cl31.slots.size ≤ ((i + (3 : Int32))).toNatClampNeg) := inb_of S31 (own_inU (n := (3 : Int32)) (k := (3 : Int32)) hi0 hlt hi2 hc172_20 (by decide) (by decide) (by decide))
                            have pre32 : ∀ t, Steps p.tables e below (s₁.setTop (mkF m 231 #[.val (.ref o0), .val (.int p1), .val (.int p2), .val (.int i), .val (.int ((own_at cs i) &&& (255 : Int32))), .val (.int (3 : Int32)), .val (.int (own_lo3 cs p2 i)), .val (.int (own_hi3 cs p2 i)), .val (.int ((own_at cs (i + (1 : Int32))) &&& (255 : Int32))), .val (.int (3 : Int32)), .val (.int ((own_at cs (i + (3 : Int32))) &&& (255 : Int32)))] [(.int (128 : Int32)), (.int ((own_at cs (i + (3 : Int32))) &&& (255 : Int32)))])) t → Steps p.tables e below (s₁.setTop (mkF m 2 #[.val (.ref o0), .val (.int p1), .val (.int p2), .val (.int i), s4, s5, s6, s7, s8, s9, s10] [])) t := fun t k => pre29 t (by
                              show Steps p.tables e below (s₁.setTop (mkF m 239 #[.val (.ref o0), .val (.int p1), .val (.int p2), .val (.int i), .val (.int ((own_at cs i) &&& (255 : Int32))), .val (.int (3 : Int32)), .val (.int (own_lo3 cs p2 i)), .val (.int (own_hi3 cs p2 i)), .val (.int ((own_at cs (i + (1 : Int32))) &&& (255 : Int32))), .val (.int (2 : Int32)), .val (.int ((own_at cs (i + (2 : Int32))) &&& (255 : Int32)))] [(.int (191 : Int32)), (.int ((own_at cs (i + (2 : Int32))) &&& (255 : Int32)))])) _
                              refine XS.icmpYes X0.here hx rfl (pc0 := 239) (pc' := 244) rfl (hb hby d3_239) rfl (flt hc239_30).2.2.2 (by decide) (by decide) ?_
                              show Steps p.tables e below (s₁.setTop (mkF m 244 #[.val (.ref o0), .val (.int p1), .val (.int p2), .val (.int i), .val (.int ((own_at cs i) &&& (255 : Int32))), .val (.int (3 : Int32)), .val (.int (own_lo3 cs p2 i)), .val (.int (own_hi3 cs p2 i)), .val (.int ((own_at cs (i + (1 : Int32))) &&& (255 : Int32))), .val (.int (2 : Int32)), .val (.int ((own_at cs (i + (2 : Int32))) &&& (255 : Int32)))] [])) _
                              refine XS.iinc X0.here hx rfl (hb hby d3_244) rfl (l' := #[.val (.ref o0), .val (.int p1), .val (.int p2), .val (.int i), .val (.int ((own_at cs i) &&& (255 : Int32))), .val (.int (3 : Int32)), .val (.int (own_lo3 cs p2 i)), .val (.int (own_hi3 cs p2 i)), .val (.int ((own_at cs (i + (1 : Int32))) &&& (255 : Int32))), .val (.int (3 : Int32)), .val (.int ((own_at cs (i + (2 : Int32))) &&& (255 : Int32)))]) rfl ?_
                              show Steps p.tables e below (s₁.setTop (mkF m 247 #[.val (.ref o0), .val (.int p1), .val (.int p2), .val (.int i), .val (.int ((own_at cs i) &&& (255 : Int32))), .val (.int (3 : Int32)), .val (.int (own_lo3 cs p2 i)), .val (.int (own_hi3 cs p2 i)), .val (.int ((own_at cs (i + (1 : Int32))) &&& (255 : Int32))), .val (.int (3 : Int32)), .val (.int ((own_at cs (i + (2 : Int32))) &&& (255 : Int32)))] [])) _
                              refine XS.goto X0.here hx rfl (pc0 := 247) (pc' := 207) rfl (hb hby d3_247) (by decide) (by decide) ?_
                              show Steps p.tables e below (s₁.setTop (mkF m 207 #[.val (.ref o0), .val (.int p1), .val (.int p2), .val (.int i), .val (.int ((own_at cs i) &&& (255 : Int32))), .val (.int (3 : Int32)), .val (.int (own_lo3 cs p2 i)), .val (.int (own_hi3 cs p2 i)), .val (.int ((own_at cs (i + (1 : Int32))) &&& (255 : Int32))), .val (.int (3 : Int32)), .val (.int ((own_at cs (i + (2 : Int32))) &&& (255 : Int32)))] [])) _
                              refine XS.iload X0.here hx rfl (hb hby d3_207) rfl ?_
                              show Steps p.tables e below (s₁.setTop (mkF m 209 #[.val (.ref o0), .val (.int p1), .val (.int p2), .val (.int i), .val (.int ((own_at cs i) &&& (255 : Int32))), .val (.int (3 : Int32)), .val (.int (own_lo3 cs p2 i)), .val (.int (own_hi3 cs p2 i)), .val (.int ((own_at cs (i + (1 : Int32))) &&& (255 : Int32))), .val (.int (3 : Int32)), .val (.int ((own_at cs (i + (2 : Int32))) &&& (255 : Int32)))] [(.int (3 : Int32))])) _
                              refine XS.iload X0.here hx rfl (hb hby d3_209) rfl ?_
                              show Steps p.tables e below (s₁.setTop (mkF m 211 #[.val (.ref o0), .val (.int p1), .val (.int p2), .val (.int i), .val (.int ((own_at cs i) &&& (255 : Int32))), .val (.int (3 : Int32)), .val (.int (own_lo3 cs p2 i)), .val (.int (own_hi3 cs p2 i)), .val (.int ((own_at cs (i + (1 : Int32))) &&& (255 : Int32))), .val (.int (3 : Int32)), .val (.int ((own_at cs (i + (2 : Int32))) &&& (255 : Int32)))] [(.int (3 : Int32)), (.int (3 : Int32))])) _
                              refine XS.icmpNo X0.here hx rfl (hb hby d3_211) rfl (flt ((by decide) : ¬ ((3 : Int32) < (3 : Int32)))).2.2.1 ?_
                              show Steps p.tables e below (s₁.setTop (mkF m 214 #[.val (.ref o0), .val (.int p1), .val (.int p2), .val (.int i), .val (.int ((own_at cs i) &&& (255 : Int32))), .val (.int (3 : Int32)), .val (.int (own_lo3 cs p2 i)), .val (.int (own_hi3 cs p2 i)), .val (.int ((own_at cs (i + (1 : Int32))) &&& (255 : Int32))), .val (.int (3 : Int32)), .val (.int ((own_at cs (i + (2 : Int32))) &&& (255 : Int32)))] [])) _
                              refine XS.aloadN X0.here hx rfl (hb hby d3_214) rfl rfl ?_
                              show Steps p.tables e below (s₁.setTop (mkF m 215 #[.val (.ref o0), .val (.int p1), .val (.int p2), .val (.int i), .val (.int ((own_at cs i) &&& (255 : Int32))), .val (.int (3 : Int32)), .val (.int (own_lo3 cs p2 i)), .val (.int (own_hi3 cs p2 i)), .val (.int ((own_at cs (i + (1 : Int32))) &&& (255 : Int32))), .val (.int (3 : Int32)), .val (.int ((own_at cs (i + (2 : Int32))) &&& (255 : Int32)))] [(.ref o0)])) _
                              refine XS.iloadN X0.here hx rfl (hb hby d3_215) rfl ?_
                              show Steps p.tables e below (s₁.setTop (mkF m 216 #[.val (.ref o0), .val (.int p1), .val (.int p2), .val (.int i), .val (.int ((own_at cs i) &&& (255 : Int32))), .val (.int (3 : Int32)), .val (.int (own_lo3 cs p2 i)), .val (.int (own_hi3 cs p2 i)), .val (.int ((own_at cs (i + (1 : Int32))) &&& (255 : Int32))), .val (.int (3 : Int32)), .val (.int ((own_at cs (i + (2 : Int32))) &&& (255 : Int32)))] [(.int i), (.ref o0)])) _
                              refine XS.iload X0.here hx rfl (hb hby d3_216) rfl ?_
                              show Steps p.tables e below (s₁.setTop (mkF m 218 #[.val (.ref o0), .val (.int p1), .val (.int p2), .val (.int i), .val (.int ((own_at cs i) &&& (255 : Int32))), .val (.int (3 : Int32)), .val (.int (own_lo3 cs p2 i)), .val (.int (own_hi3 cs p2 i)), .val (.int ((own_at cs (i + (1 : Int32))) &&& (255 : Int32))), .val (.int (3 : Int32)), .val (.int ((own_at cs (i + (2 : Int32))) &&& (255 : Int32)))] [(.int (3 : Int32)), (.int i), (.ref o0)])) _
                              refine XS.iadd X0.here hx rfl (hb hby d3_218) rfl ?_
                              show Steps p.tables e below (s₁.setTop (mkF m 219 #[.val (.ref o0), .val (.int p1), .val (.int p2), .val (.int i), .val (.int ((own_at cs i) &&& (255 : Int32))), .val (.int (3 : Int32)), .val (.int (own_lo3 cs p2 i)), .val (.int (own_hi3 cs p2 i)), .val (.int ((own_at cs (i + (1 : Int32))) &&& (255 : Int32))), .val (.int (3 : Int32)), .val (.int ((own_at cs (i + (2 : Int32))) &&& (255 : Int32)))] [(.int (i + (3 : Int32))), (.ref o0)])) _
                              refine X0.baloadBytes hx (j := (i + (3 : Int32))) (v := (.int (own_at cs (i + (3 : Int32))))) (by rw [e0]; exact Ar31.1) (State.isArrayOf_alike hZ.alike Ar31.2.1) Ar31.2.2 hin31 (H31.at hin31 (own_getD cs _)) (g := (mkF m 219 #[.val (.ref o0), .val (.int p1), .val (.int p2), .val (.int i), .val (.int ((own_at cs i) &&& (255 : Int32))), .val (.int (3 : Int32)), .val (.int (own_lo3 cs p2 i)), .val (.int (own_hi3 cs p2 i)), .val (.int ((own_at cs (i + (1 : Int32))) &&& (255 : Int32))), .val (.int (3 : Int32)), .val (.int ((own_at cs (i + (2 : Int32))) &&& (255 : Int32)))] [(.int (i + (3 : Int32))), (.ref o0)])) rfl rfl (hb hby d3_219) _ ?_
                              show Steps p.tables e below (s₁.setTop (mkF m 220 #[.val (.ref o0), .val (.int p1), .val (.int p2), .val (.int i), .val (.int ((own_at cs i) &&& (255 : Int32))), .val (.int (3 : Int32)), .val (.int (own_lo3 cs p2 i)), .val (.int (own_hi3 cs p2 i)), .val (.int ((own_at cs (i + (1 : Int32))) &&& (255 : Int32))), .val (.int (3 : Int32)), .val (.int ((own_at cs (i + (2 : Int32))) &&& (255 : Int32)))] [(.int (own_at cs (i + (3 : Int32))))])) _
                              refine XS.sipush X0.here hx rfl (hb hby d3_220) ?_
                              show Steps p.tables e below (s₁.setTop (mkF m 223 #[.val (.ref o0), .val (.int p1), .val (.int p2), .val (.int i), .val (.int ((own_at cs i) &&& (255 : Int32))), .val (.int (3 : Int32)), .val (.int (own_lo3 cs p2 i)), .val (.int (own_hi3 cs p2 i)), .val (.int ((own_at cs (i + (1 : Int32))) &&& (255 : Int32))), .val (.int (3 : Int32)), .val (.int ((own_at cs (i + (2 : Int32))) &&& (255 : Int32)))] [(.int (255 : Int32)), (.int (own_at cs (i + (3 : Int32))))])) _
                              refine XS.iand X0.here hx rfl (hb hby d3_223) rfl ?_
                              show Steps p.tables e below (s₁.setTop (mkF m 224 #[.val (.ref o0), .val (.int p1), .val (.int p2), .val (.int i), .val (.int ((own_at cs i) &&& (255 : Int32))), .val (.int (3 : Int32)), .val (.int (own_lo3 cs p2 i)), .val (.int (own_hi3 cs p2 i)), .val (.int ((own_at cs (i + (1 : Int32))) &&& (255 : Int32))), .val (.int (3 : Int32)), .val (.int ((own_at cs (i + (2 : Int32))) &&& (255 : Int32)))] [(.int ((own_at cs (i + (3 : Int32))) &&& (255 : Int32)))])) _
                              refine XS.istore X0.here hx rfl (hb hby d3_224) rfl (l' := #[.val (.ref o0), .val (.int p1), .val (.int p2), .val (.int i), .val (.int ((own_at cs i) &&& (255 : Int32))), .val (.int (3 : Int32)), .val (.int (own_lo3 cs p2 i)), .val (.int (own_hi3 cs p2 i)), .val (.int ((own_at cs (i + (1 : Int32))) &&& (255 : Int32))), .val (.int (3 : Int32)), .val (.int ((own_at cs (i + (3 : Int32))) &&& (255 : Int32)))]) rfl ?_
                              show Steps p.tables e below (s₁.setTop (mkF m 226 #[.val (.ref o0), .val (.int p1), .val (.int p2), .val (.int i), .val (.int ((own_at cs i) &&& (255 : Int32))), .val (.int (3 : Int32)), .val (.int (own_lo3 cs p2 i)), .val (.int (own_hi3 cs p2 i)), .val (.int ((own_at cs (i + (1 : Int32))) &&& (255 : Int32))), .val (.int (3 : Int32)), .val (.int ((own_at cs (i + (3 : Int32))) &&& (255 : Int32)))] [])) _
                              refine XS.iload X0.here hx rfl (hb hby d3_226) rfl ?_
                              show Steps p.tables e below (s₁.setTop (mkF m 228 #[.val (.ref o0), .val (.int p1), .val (.int p2), .val (.int i), .val (.int ((own_at cs i) &&& (255 : Int32))), .val (.int (3 : Int32)), .val (.int (own_lo3 cs p2 i)), .val (.int (own_hi3 cs p2 i)), .val (.int ((own_at cs (i + (1 : Int32))) &&& (255 : Int32))), .val (.int (3 : Int32)), .val (.int ((own_at cs (i + (3 : Int32))) &&& (255 : Int32)))] [(.int ((own_at cs (i + (3 : Int32))) &&& (255 : Int32)))])) _
                              refine XS.sipush X0.here hx rfl (hb hby d3_228) ?_
                              exact k)
                            by_cases hc231_33 : ((own_at cs (i + (3 : Int32))) &&& (255 : Int32)) < (128 : Int32)
                            · have hrv : r = (0 : Int32) := own_stop hlt (show own_turn cs p2 i = (-1 : Int32) from by simp only [own_turn, if_pos hc14_4, if_neg hc46_6, if_pos hc54_8, if_pos hc76_10, if_neg hc127_12, if_pos hc172_20, if_neg hc192_23, if_neg hc199_25, if_neg hc231_28, if_neg hc239_30, if_pos hc231_33]) hq
                              rw [hrv] at hr
                              refine pre32 _ ?_
                              show Steps p.tables e below (s₁.setTop (mkF m 231 #[.val (.ref o0), .val (.int p1), .val (.int p2), .val (.int i), .val (.int ((own_at cs i) &&& (255 : Int32))), .val (.int (3 : Int32)), .val (.int (own_lo3 cs p2 i)), .val (.int (own_hi3 cs p2 i)), .val (.int ((own_at cs (i + (1 : Int32))) &&& (255 : Int32))), .val (.int (3 : Int32)), .val (.int ((own_at cs (i + (3 : Int32))) &&& (255 : Int32)))] [(.int (128 : Int32)), (.int ((own_at cs (i + (3 : Int32))) &&& (255 : Int32)))])) _
                              refine XS.icmpYes X0.here hx rfl (pc0 := 231) (pc' := 242) rfl (hb hby d3_231) rfl (tlt hc231_33).1 (by decide) (by decide) ?_
                              show Steps p.tables e below (s₁.setTop (mkF m 242 #[.val (.ref o0), .val (.int p1), .val (.int p2), .val (.int i), .val (.int ((own_at cs i) &&& (255 : Int32))), .val (.int (3 : Int32)), .val (.int (own_lo3 cs p2 i)), .val (.int (own_hi3 cs p2 i)), .val (.int ((own_at cs (i + (1 : Int32))) &&& (255 : Int32))), .val (.int (3 : Int32)), .val (.int ((own_at cs (i + (3 : Int32))) &&& (255 : Int32)))] [])) _
                              refine XS.iconst X0.here hx rfl (hb hby d3_242) ?_
                              show Steps p.tables e below (s₁.setTop (mkF m 243 #[.val (.ref o0), .val (.int p1), .val (.int p2), .val (.int i), .val (.int ((own_at cs i) &&& (255 : Int32))), .val (.int (3 : Int32)), .val (.int (own_lo3 cs p2 i)), .val (.int (own_hi3 cs p2 i)), .val (.int ((own_at cs (i + (1 : Int32))) &&& (255 : Int32))), .val (.int (3 : Int32)), .val (.int ((own_at cs (i + (3 : Int32))) &&& (255 : Int32)))] [(.int (0 : Int32))])) _
                              exact retN X0 hx (t := .boolean) Bd.returns (by simp) (hb hby d3_243) hr
                            · have pre34 : ∀ t, Steps p.tables e below (s₁.setTop (mkF m 239 #[.val (.ref o0), .val (.int p1), .val (.int p2), .val (.int i), .val (.int ((own_at cs i) &&& (255 : Int32))), .val (.int (3 : Int32)), .val (.int (own_lo3 cs p2 i)), .val (.int (own_hi3 cs p2 i)), .val (.int ((own_at cs (i + (1 : Int32))) &&& (255 : Int32))), .val (.int (3 : Int32)), .val (.int ((own_at cs (i + (3 : Int32))) &&& (255 : Int32)))] [(.int (191 : Int32)), (.int ((own_at cs (i + (3 : Int32))) &&& (255 : Int32)))])) t → Steps p.tables e below (s₁.setTop (mkF m 2 #[.val (.ref o0), .val (.int p1), .val (.int p2), .val (.int i), s4, s5, s6, s7, s8, s9, s10] [])) t := fun t k => pre32 t (by
                                show Steps p.tables e below (s₁.setTop (mkF m 231 #[.val (.ref o0), .val (.int p1), .val (.int p2), .val (.int i), .val (.int ((own_at cs i) &&& (255 : Int32))), .val (.int (3 : Int32)), .val (.int (own_lo3 cs p2 i)), .val (.int (own_hi3 cs p2 i)), .val (.int ((own_at cs (i + (1 : Int32))) &&& (255 : Int32))), .val (.int (3 : Int32)), .val (.int ((own_at cs (i + (3 : Int32))) &&& (255 : Int32)))] [(.int (128 : Int32)), (.int ((own_at cs (i + (3 : Int32))) &&& (255 : Int32)))])) _
                                refine XS.icmpNo X0.here hx rfl (hb hby d3_231) rfl (flt hc231_33).1 ?_
                                show Steps p.tables e below (s₁.setTop (mkF m 234 #[.val (.ref o0), .val (.int p1), .val (.int p2), .val (.int i), .val (.int ((own_at cs i) &&& (255 : Int32))), .val (.int (3 : Int32)), .val (.int (own_lo3 cs p2 i)), .val (.int (own_hi3 cs p2 i)), .val (.int ((own_at cs (i + (1 : Int32))) &&& (255 : Int32))), .val (.int (3 : Int32)), .val (.int ((own_at cs (i + (3 : Int32))) &&& (255 : Int32)))] [])) _
                                refine XS.iload X0.here hx rfl (hb hby d3_234) rfl ?_
                                show Steps p.tables e below (s₁.setTop (mkF m 236 #[.val (.ref o0), .val (.int p1), .val (.int p2), .val (.int i), .val (.int ((own_at cs i) &&& (255 : Int32))), .val (.int (3 : Int32)), .val (.int (own_lo3 cs p2 i)), .val (.int (own_hi3 cs p2 i)), .val (.int ((own_at cs (i + (1 : Int32))) &&& (255 : Int32))), .val (.int (3 : Int32)), .val (.int ((own_at cs (i + (3 : Int32))) &&& (255 : Int32)))] [(.int ((own_at cs (i + (3 : Int32))) &&& (255 : Int32)))])) _
                                refine XS.sipush X0.here hx rfl (hb hby d3_236) ?_
                                exact k)
                              by_cases hc239_35 : (191 : Int32) < ((own_at cs (i + (3 : Int32))) &&& (255 : Int32))
                              · have hrv : r = (0 : Int32) := own_stop hlt (show own_turn cs p2 i = (-1 : Int32) from by simp only [own_turn, if_pos hc14_4, if_neg hc46_6, if_pos hc54_8, if_pos hc76_10, if_neg hc127_12, if_pos hc172_20, if_neg hc192_23, if_neg hc199_25, if_neg hc231_28, if_neg hc239_30, if_neg hc231_33, if_pos hc239_35]) hq
                                rw [hrv] at hr
                                refine pre34 _ ?_
                                show Steps p.tables e below (s₁.setTop (mkF m 239 #[.val (.ref o0), .val (.int p1), .val (.int p2), .val (.int i), .val (.int ((own_at cs i) &&& (255 : Int32))), .val (.int (3 : Int32)), .val (.int (own_lo3 cs p2 i)), .val (.int (own_hi3 cs p2 i)), .val (.int ((own_at cs (i + (1 : Int32))) &&& (255 : Int32))), .val (.int (3 : Int32)), .val (.int ((own_at cs (i + (3 : Int32))) &&& (255 : Int32)))] [(.int (191 : Int32)), (.int ((own_at cs (i + (3 : Int32))) &&& (255 : Int32)))])) _
                                refine XS.icmpNo X0.here hx rfl (hb hby d3_239) rfl (tlt hc239_35).2.2.2 ?_
                                show Steps p.tables e below (s₁.setTop (mkF m 242 #[.val (.ref o0), .val (.int p1), .val (.int p2), .val (.int i), .val (.int ((own_at cs i) &&& (255 : Int32))), .val (.int (3 : Int32)), .val (.int (own_lo3 cs p2 i)), .val (.int (own_hi3 cs p2 i)), .val (.int ((own_at cs (i + (1 : Int32))) &&& (255 : Int32))), .val (.int (3 : Int32)), .val (.int ((own_at cs (i + (3 : Int32))) &&& (255 : Int32)))] [])) _
                                refine XS.iconst X0.here hx rfl (hb hby d3_242) ?_
                                show Steps p.tables e below (s₁.setTop (mkF m 243 #[.val (.ref o0), .val (.int p1), .val (.int p2), .val (.int i), .val (.int ((own_at cs i) &&& (255 : Int32))), .val (.int (3 : Int32)), .val (.int (own_lo3 cs p2 i)), .val (.int (own_hi3 cs p2 i)), .val (.int ((own_at cs (i + (1 : Int32))) &&& (255 : Int32))), .val (.int (3 : Int32)), .val (.int ((own_at cs (i + (3 : Int32))) &&& (255 : Int32)))] [(.int (0 : Int32))])) _
                                exact retN X0 hx (t := .boolean) Bd.returns (by simp) (hb hby d3_243) hr
                              · have hbd := own_nbn (n := (3 : Int32)) (m := (4 : Int32)) hi0 hlt hi2 hk hc172_20 (by decide) (by decide) (by decide)
                                have hq2 : r = own_utf cs p2 k (i + (4 : Int32)) := own_go hlt (show own_turn cs p2 i = (i + (4 : Int32)) from by simp only [own_turn, if_pos hc14_4, if_neg hc46_6, if_pos hc54_8, if_pos hc76_10, if_neg hc127_12, if_pos hc172_20, if_neg hc192_23, if_neg hc199_25, if_neg hc231_28, if_neg hc239_30, if_neg hc231_33, if_neg hc239_35]) hbd.1 hq
                                refine pre34 _ ?_
                                show Steps p.tables e below (s₁.setTop (mkF m 239 #[.val (.ref o0), .val (.int p1), .val (.int p2), .val (.int i), .val (.int ((own_at cs i) &&& (255 : Int32))), .val (.int (3 : Int32)), .val (.int (own_lo3 cs p2 i)), .val (.int (own_hi3 cs p2 i)), .val (.int ((own_at cs (i + (1 : Int32))) &&& (255 : Int32))), .val (.int (3 : Int32)), .val (.int ((own_at cs (i + (3 : Int32))) &&& (255 : Int32)))] [(.int (191 : Int32)), (.int ((own_at cs (i + (3 : Int32))) &&& (255 : Int32)))])) _
                                refine XS.icmpYes X0.here hx rfl (pc0 := 239) (pc' := 244) rfl (hb hby d3_239) rfl (flt hc239_35).2.2.2 (by decide) (by decide) ?_
                                show Steps p.tables e below (s₁.setTop (mkF m 244 #[.val (.ref o0), .val (.int p1), .val (.int p2), .val (.int i), .val (.int ((own_at cs i) &&& (255 : Int32))), .val (.int (3 : Int32)), .val (.int (own_lo3 cs p2 i)), .val (.int (own_hi3 cs p2 i)), .val (.int ((own_at cs (i + (1 : Int32))) &&& (255 : Int32))), .val (.int (3 : Int32)), .val (.int ((own_at cs (i + (3 : Int32))) &&& (255 : Int32)))] [])) _
                                refine XS.iinc X0.here hx rfl (hb hby d3_244) rfl (l' := #[.val (.ref o0), .val (.int p1), .val (.int p2), .val (.int i), .val (.int ((own_at cs i) &&& (255 : Int32))), .val (.int (3 : Int32)), .val (.int (own_lo3 cs p2 i)), .val (.int (own_hi3 cs p2 i)), .val (.int ((own_at cs (i + (1 : Int32))) &&& (255 : Int32))), .val (.int (4 : Int32)), .val (.int ((own_at cs (i + (3 : Int32))) &&& (255 : Int32)))]) rfl ?_
                                show Steps p.tables e below (s₁.setTop (mkF m 247 #[.val (.ref o0), .val (.int p1), .val (.int p2), .val (.int i), .val (.int ((own_at cs i) &&& (255 : Int32))), .val (.int (3 : Int32)), .val (.int (own_lo3 cs p2 i)), .val (.int (own_hi3 cs p2 i)), .val (.int ((own_at cs (i + (1 : Int32))) &&& (255 : Int32))), .val (.int (4 : Int32)), .val (.int ((own_at cs (i + (3 : Int32))) &&& (255 : Int32)))] [])) _
                                refine XS.goto X0.here hx rfl (pc0 := 247) (pc' := 207) rfl (hb hby d3_247) (by decide) (by decide) ?_
                                show Steps p.tables e below (s₁.setTop (mkF m 207 #[.val (.ref o0), .val (.int p1), .val (.int p2), .val (.int i), .val (.int ((own_at cs i) &&& (255 : Int32))), .val (.int (3 : Int32)), .val (.int (own_lo3 cs p2 i)), .val (.int (own_hi3 cs p2 i)), .val (.int ((own_at cs (i + (1 : Int32))) &&& (255 : Int32))), .val (.int (4 : Int32)), .val (.int ((own_at cs (i + (3 : Int32))) &&& (255 : Int32)))] [])) _
                                refine XS.iload X0.here hx rfl (hb hby d3_207) rfl ?_
                                show Steps p.tables e below (s₁.setTop (mkF m 209 #[.val (.ref o0), .val (.int p1), .val (.int p2), .val (.int i), .val (.int ((own_at cs i) &&& (255 : Int32))), .val (.int (3 : Int32)), .val (.int (own_lo3 cs p2 i)), .val (.int (own_hi3 cs p2 i)), .val (.int ((own_at cs (i + (1 : Int32))) &&& (255 : Int32))), .val (.int (4 : Int32)), .val (.int ((own_at cs (i + (3 : Int32))) &&& (255 : Int32)))] [(.int (4 : Int32))])) _
                                refine XS.iload X0.here hx rfl (hb hby d3_209) rfl ?_
                                show Steps p.tables e below (s₁.setTop (mkF m 211 #[.val (.ref o0), .val (.int p1), .val (.int p2), .val (.int i), .val (.int ((own_at cs i) &&& (255 : Int32))), .val (.int (3 : Int32)), .val (.int (own_lo3 cs p2 i)), .val (.int (own_hi3 cs p2 i)), .val (.int ((own_at cs (i + (1 : Int32))) &&& (255 : Int32))), .val (.int (4 : Int32)), .val (.int ((own_at cs (i + (3 : Int32))) &&& (255 : Int32)))] [(.int (3 : Int32)), (.int (4 : Int32))])) _
                                refine XS.icmpYes X0.here hx rfl (pc0 := 211) (pc' := 250) rfl (hb hby d3_211) rfl (tlt ((by decide) : (3 : Int32) < (4 : Int32))).2.2.1 (by decide) (by decide) ?_
                                show Steps p.tables e below (s₁.setTop (mkF m 250 #[.val (.ref o0), .val (.int p1), .val (.int p2), .val (.int i), .val (.int ((own_at cs i) &&& (255 : Int32))), .val (.int (3 : Int32)), .val (.int (own_lo3 cs p2 i)), .val (.int (own_hi3 cs p2 i)), .val (.int ((own_at cs (i + (1 : Int32))) &&& (255 : Int32))), .val (.int (4 : Int32)), .val (.int ((own_at cs (i + (3 : Int32))) &&& (255 : Int32)))] [])) _
                                refine XS.iloadN X0.here hx rfl (hb hby d3_250) rfl ?_
                                show Steps p.tables e below (s₁.setTop (mkF m 251 #[.val (.ref o0), .val (.int p1), .val (.int p2), .val (.int i), .val (.int ((own_at cs i) &&& (255 : Int32))), .val (.int (3 : Int32)), .val (.int (own_lo3 cs p2 i)), .val (.int (own_hi3 cs p2 i)), .val (.int ((own_at cs (i + (1 : Int32))) &&& (255 : Int32))), .val (.int (4 : Int32)), .val (.int ((own_at cs (i + (3 : Int32))) &&& (255 : Int32)))] [(.int i)])) _
                                refine XS.iload X0.here hx rfl (hb hby d3_251) rfl ?_
                                show Steps p.tables e below (s₁.setTop (mkF m 253 #[.val (.ref o0), .val (.int p1), .val (.int p2), .val (.int i), .val (.int ((own_at cs i) &&& (255 : Int32))), .val (.int (3 : Int32)), .val (.int (own_lo3 cs p2 i)), .val (.int (own_hi3 cs p2 i)), .val (.int ((own_at cs (i + (1 : Int32))) &&& (255 : Int32))), .val (.int (4 : Int32)), .val (.int ((own_at cs (i + (3 : Int32))) &&& (255 : Int32)))] [(.int (3 : Int32)), (.int i)])) _
                                refine XS.iconst X0.here hx rfl (hb hby d3_253) ?_
                                show Steps p.tables e below (s₁.setTop (mkF m 254 #[.val (.ref o0), .val (.int p1), .val (.int p2), .val (.int i), .val (.int ((own_at cs i) &&& (255 : Int32))), .val (.int (3 : Int32)), .val (.int (own_lo3 cs p2 i)), .val (.int (own_hi3 cs p2 i)), .val (.int ((own_at cs (i + (1 : Int32))) &&& (255 : Int32))), .val (.int (4 : Int32)), .val (.int ((own_at cs (i + (3 : Int32))) &&& (255 : Int32)))] [(.int (1 : Int32)), (.int (3 : Int32)), (.int i)])) _
                                refine XS.iadd X0.here hx rfl (hb hby d3_254) rfl ?_
                                rw [show ((3 : Int32) + (1 : Int32)) = (4 : Int32) from by decide]
                                show Steps p.tables e below (s₁.setTop (mkF m 255 #[.val (.ref o0), .val (.int p1), .val (.int p2), .val (.int i), .val (.int ((own_at cs i) &&& (255 : Int32))), .val (.int (3 : Int32)), .val (.int (own_lo3 cs p2 i)), .val (.int (own_hi3 cs p2 i)), .val (.int ((own_at cs (i + (1 : Int32))) &&& (255 : Int32))), .val (.int (4 : Int32)), .val (.int ((own_at cs (i + (3 : Int32))) &&& (255 : Int32)))] [(.int (4 : Int32)), (.int i)])) _
                                refine XS.iadd X0.here hx rfl (hb hby d3_255) rfl ?_
                                show Steps p.tables e below (s₁.setTop (mkF m 256 #[.val (.ref o0), .val (.int p1), .val (.int p2), .val (.int i), .val (.int ((own_at cs i) &&& (255 : Int32))), .val (.int (3 : Int32)), .val (.int (own_lo3 cs p2 i)), .val (.int (own_hi3 cs p2 i)), .val (.int ((own_at cs (i + (1 : Int32))) &&& (255 : Int32))), .val (.int (4 : Int32)), .val (.int ((own_at cs (i + (3 : Int32))) &&& (255 : Int32)))] [(.int (i + (4 : Int32)))])) _
                                refine XS.istoreN X0.here hx rfl (hb hby d3_256) rfl (l' := #[.val (.ref o0), .val (.int p1), .val (.int p2), .val (.int (i + (4 : Int32))), .val (.int ((own_at cs i) &&& (255 : Int32))), .val (.int (3 : Int32)), .val (.int (own_lo3 cs p2 i)), .val (.int (own_hi3 cs p2 i)), .val (.int ((own_at cs (i + (1 : Int32))) &&& (255 : Int32))), .val (.int (4 : Int32)), .val (.int ((own_at cs (i + (3 : Int32))) &&& (255 : Int32)))]) rfl ?_
                                show Steps p.tables e below (s₁.setTop (mkF m 257 #[.val (.ref o0), .val (.int p1), .val (.int p2), .val (.int (i + (4 : Int32))), .val (.int ((own_at cs i) &&& (255 : Int32))), .val (.int (3 : Int32)), .val (.int (own_lo3 cs p2 i)), .val (.int (own_hi3 cs p2 i)), .val (.int ((own_at cs (i + (1 : Int32))) &&& (255 : Int32))), .val (.int (4 : Int32)), .val (.int ((own_at cs (i + (3 : Int32))) &&& (255 : Int32)))] [])) _
                                refine XS.goto X0.here hx rfl (pc0 := 257) (pc' := 2) rfl (hb hby d3_257) (by decide) (by decide) ?_
                                exact ih _ _ _ _ _ _ _ _ (One.val rfl) (One.val rfl) (One.val rfl) (One.val rfl) (One.val rfl) (One.val rfl) (One.val rfl) hbd.1 hbd.2.1 hbd.2.2 hq2
                  · have hrv : r = (0 : Int32) := own_stop hlt (show own_turn cs p2 i = (-1 : Int32) from by simp only [own_turn, if_pos hc14_4, if_neg hc46_6, if_pos hc54_8, if_pos hc76_10, if_neg hc127_12, if_neg hc172_20]) hq
                    rw [hrv] at hr
                    refine pre19 _ ?_
                    show Steps p.tables e below (s₁.setTop (mkF m 172 #[.val (.ref o0), .val (.int p1), .val (.int p2), .val (.int i), .val (.int ((own_at cs i) &&& (255 : Int32))), .val (.int (3 : Int32)), .val (.int (own_lo3 cs p2 i)), .val (.int (own_hi3 cs p2 i)), s8, s9, s10] [(.int (3 : Int32)), (.int (p2 - i))])) _
                    refine XS.icmpNo X0.here hx rfl (hb hby d3_172) rfl (flt hc172_20).2.2.1 ?_
                    show Steps p.tables e below (s₁.setTop (mkF m 175 #[.val (.ref o0), .val (.int p1), .val (.int p2), .val (.int i), .val (.int ((own_at cs i) &&& (255 : Int32))), .val (.int (3 : Int32)), .val (.int (own_lo3 cs p2 i)), .val (.int (own_hi3 cs p2 i)), s8, s9, s10] [])) _
                    refine XS.iconst X0.here hx rfl (hb hby d3_175) ?_
                    show Steps p.tables e below (s₁.setTop (mkF m 176 #[.val (.ref o0), .val (.int p1), .val (.int p2), .val (.int i), .val (.int ((own_at cs i) &&& (255 : Int32))), .val (.int (3 : Int32)), .val (.int (own_lo3 cs p2 i)), .val (.int (own_hi3 cs p2 i)), s8, s9, s10] [(.int (0 : Int32))])) _
                    exact retN X0 hx (t := .boolean) Bd.returns (by simp) (hb hby d3_176) hr
              · have pre36 : ∀ t, Steps p.tables e below (s₁.setTop (mkF m 82 #[.val (.ref o0), .val (.int p1), .val (.int p2), .val (.int i), .val (.int ((own_at cs i) &&& (255 : Int32))), .val (.int (2 : Int32)), .val (.int (128 : Int32)), .val (.int (191 : Int32)), s8, s9, s10] [])) t → Steps p.tables e below (s₁.setTop (mkF m 2 #[.val (.ref o0), .val (.int p1), .val (.int p2), .val (.int i), s4, s5, s6, s7, s8, s9, s10] [])) t := fun t k => pre9 t (by
                  show Steps p.tables e below (s₁.setTop (mkF m 76 #[.val (.ref o0), .val (.int p1), .val (.int p2), .val (.int i), .val (.int ((own_at cs i) &&& (255 : Int32))), s5, .val (.int (128 : Int32)), .val (.int (191 : Int32)), s8, s9, s10] [(.int (239 : Int32)), (.int ((own_at cs i) &&& (255 : Int32)))])) _
                  refine XS.icmpNo X0.here hx rfl (hb hby d3_76) rfl (flt hc76_10).2.2.1 ?_
                  show Steps p.tables e below (s₁.setTop (mkF m 79 #[.val (.ref o0), .val (.int p1), .val (.int p2), .val (.int i), .val (.int ((own_at cs i) &&& (255 : Int32))), s5, .val (.int (128 : Int32)), .val (.int (191 : Int32)), s8, s9, s10] [])) _
                  refine XS.iconst X0.here hx rfl (hb hby d3_79) ?_
                  show Steps p.tables e below (s₁.setTop (mkF m 80 #[.val (.ref o0), .val (.int p1), .val (.int p2), .val (.int i), .val (.int ((own_at cs i) &&& (255 : Int32))), s5, .val (.int (128 : Int32)), .val (.int (191 : Int32)), s8, s9, s10] [(.int (2 : Int32))])) _
                  refine XS.istore X0.here hx rfl (hb hby d3_80) rfl (l' := #[.val (.ref o0), .val (.int p1), .val (.int p2), .val (.int i), .val (.int ((own_at cs i) &&& (255 : Int32))), .val (.int (2 : Int32)), .val (.int (128 : Int32)), .val (.int (191 : Int32)), s8, s9, s10]) (XS.store1 rfl hs5 rfl) ?_
                  exact k)
                have pre37 : ∀ t, Steps p.tables e below (s₁.setTop (mkF m 167 #[.val (.ref o0), .val (.int p1), .val (.int p2), .val (.int i), .val (.int ((own_at cs i) &&& (255 : Int32))), .val (.int (2 : Int32)), .val (.int (own_lo2 cs p2 i)), .val (.int (own_hi2 cs p2 i)), s8, s9, s10] [])) t → Steps p.tables e below (s₁.setTop (mkF m 2 #[.val (.ref o0), .val (.int p1), .val (.int p2), .val (.int i), s4, s5, s6, s7, s8, s9, s10] [])) t := by
                  have pre38 : ∀ t, Steps p.tables e below (s₁.setTop (mkF m 87 #[.val (.ref o0), .val (.int p1), .val (.int p2), .val (.int i), .val (.int ((own_at cs i) &&& (255 : Int32))), .val (.int (2 : Int32)), .val (.int (128 : Int32)), .val (.int (191 : Int32)), s8, s9, s10] [(.int (224 : Int32)), (.int ((own_at cs i) &&& (255 : Int32)))])) t → Steps p.tables e below (s₁.setTop (mkF m 2 #[.val (.ref o0), .val (.int p1), .val (.int p2), .val (.int i), s4, s5, s6, s7, s8, s9, s10] [])) t := fun t k => pre36 t (by
                    show Steps p.tables e below (s₁.setTop (mkF m 82 #[.val (.ref o0), .val (.int p1), .val (.int p2), .val (.int i), .val (.int ((own_at cs i) &&& (255 : Int32))), .val (.int (2 : Int32)), .val (.int (128 : Int32)), .val (.int (191 : Int32)), s8, s9, s10] [])) _
                    refine XS.iload X0.here hx rfl (hb hby d3_82) rfl ?_
                    show Steps p.tables e below (s₁.setTop (mkF m 84 #[.val (.ref o0), .val (.int p1), .val (.int p2), .val (.int i), .val (.int ((own_at cs i) &&& (255 : Int32))), .val (.int (2 : Int32)), .val (.int (128 : Int32)), .val (.int (191 : Int32)), s8, s9, s10] [(.int ((own_at cs i) &&& (255 : Int32)))])) _
                    refine XS.sipush X0.here hx rfl (hb hby d3_84) ?_
                    exact k)
                  by_cases hc87_39 : ((own_at cs i) &&& (255 : Int32)) = (224 : Int32)
                  · rw [show (own_lo2 cs p2 i) = (160 : Int32) from by simp only [own_lo2, if_pos hc87_39]]
                    rw [show (own_hi2 cs p2 i) = (191 : Int32) from by simp only [own_hi2, if_pos hc87_39]]
                    exact fun t k => pre38 t (by
                      show Steps p.tables e below (s₁.setTop (mkF m 87 #[.val (.ref o0), .val (.int p1), .val (.int p2), .val (.int i), .val (.int ((own_at cs i) &&& (255 : Int32))), .val (.int (2 : Int32)), .val (.int (128 : Int32)), .val (.int (191 : Int32)), s8, s9, s10] [(.int (224 : Int32)), (.int ((own_at cs i) &&& (255 : Int32)))])) _
                      refine XS.icmpNo X0.here hx rfl (hb hby d3_87) rfl (teq hc87_39).2 ?_
                      show Steps p.tables e below (s₁.setTop (mkF m 90 #[.val (.ref o0), .val (.int p1), .val (.int p2), .val (.int i), .val (.int ((own_at cs i) &&& (255 : Int32))), .val (.int (2 : Int32)), .val (.int (128 : Int32)), .val (.int (191 : Int32)), s8, s9, s10] [])) _
                      refine XS.sipush X0.here hx rfl (hb hby d3_90) ?_
                      show Steps p.tables e below (s₁.setTop (mkF m 93 #[.val (.ref o0), .val (.int p1), .val (.int p2), .val (.int i), .val (.int ((own_at cs i) &&& (255 : Int32))), .val (.int (2 : Int32)), .val (.int (128 : Int32)), .val (.int (191 : Int32)), s8, s9, s10] [(.int (160 : Int32))])) _
                      refine XS.istore X0.here hx rfl (hb hby d3_93) rfl (l' := #[.val (.ref o0), .val (.int p1), .val (.int p2), .val (.int i), .val (.int ((own_at cs i) &&& (255 : Int32))), .val (.int (2 : Int32)), .val (.int (160 : Int32)), .val (.int (191 : Int32)), s8, s9, s10]) rfl ?_
                      show Steps p.tables e below (s₁.setTop (mkF m 95 #[.val (.ref o0), .val (.int p1), .val (.int p2), .val (.int i), .val (.int ((own_at cs i) &&& (255 : Int32))), .val (.int (2 : Int32)), .val (.int (160 : Int32)), .val (.int (191 : Int32)), s8, s9, s10] [])) _
                      refine XS.goto X0.here hx rfl (pc0 := 95) (pc' := 167) rfl (hb hby d3_95) (by decide) (by decide) ?_
                      exact k)
                  · have pre40 : ∀ t, Steps p.tables e below (s₁.setTop (mkF m 103 #[.val (.ref o0), .val (.int p1), .val (.int p2), .val (.int i), .val (.int ((own_at cs i) &&& (255 : Int32))), .val (.int (2 : Int32)), .val (.int (128 : Int32)), .val (.int (191 : Int32)), s8, s9, s10] [(.int (237 : Int32)), (.int ((own_at cs i) &&& (255 : Int32)))])) t → Steps p.tables e below (s₁.setTop (mkF m 2 #[.val (.ref o0), .val (.int p1), .val (.int p2), .val (.int i), s4, s5, s6, s7, s8, s9, s10] [])) t := fun t k => pre38 t (by
                      show Steps p.tables e below (s₁.setTop (mkF m 87 #[.val (.ref o0), .val (.int p1), .val (.int p2), .val (.int i), .val (.int ((own_at cs i) &&& (255 : Int32))), .val (.int (2 : Int32)), .val (.int (128 : Int32)), .val (.int (191 : Int32)), s8, s9, s10] [(.int (224 : Int32)), (.int ((own_at cs i) &&& (255 : Int32)))])) _
                      refine XS.icmpYes X0.here hx rfl (pc0 := 87) (pc' := 98) rfl (hb hby d3_87) rfl (feq hc87_39).2 (by decide) (by decide) ?_
                      show Steps p.tables e below (s₁.setTop (mkF m 98 #[.val (.ref o0), .val (.int p1), .val (.int p2), .val (.int i), .val (.int ((own_at cs i) &&& (255 : Int32))), .val (.int (2 : Int32)), .val (.int (128 : Int32)), .val (.int (191 : Int32)), s8, s9, s10] [])) _
                      refine XS.iload X0.here hx rfl (hb hby d3_98) rfl ?_
                      show Steps p.tables e below (s₁.setTop (mkF m 100 #[.val (.ref o0), .val (.int p1), .val (.int p2), .val (.int i), .val (.int ((own_at cs i) &&& (255 : Int32))), .val (.int (2 : Int32)), .val (.int (128 : Int32)), .val (.int (191 : Int32)), s8, s9, s10] [(.int ((own_at cs i) &&& (255 : Int32)))])) _
                      refine XS.sipush X0.here hx rfl (hb hby d3_100) ?_
                      exact k)
                    by_cases hc103_41 : ((own_at cs i) &&& (255 : Int32)) = (237 : Int32)
                    · rw [show (own_lo2 cs p2 i) = (128 : Int32) from by simp only [own_lo2, if_neg hc87_39, if_pos hc103_41]]
                      rw [show (own_hi2 cs p2 i) = (159 : Int32) from by simp only [own_hi2, if_neg hc87_39, if_pos hc103_41]]
                      exact fun t k => pre40 t (by
                        show Steps p.tables e below (s₁.setTop (mkF m 103 #[.val (.ref o0), .val (.int p1), .val (.int p2), .val (.int i), .val (.int ((own_at cs i) &&& (255 : Int32))), .val (.int (2 : Int32)), .val (.int (128 : Int32)), .val (.int (191 : Int32)), s8, s9, s10] [(.int (237 : Int32)), (.int ((own_at cs i) &&& (255 : Int32)))])) _
                        refine XS.icmpNo X0.here hx rfl (hb hby d3_103) rfl (teq hc103_41).2 ?_
                        show Steps p.tables e below (s₁.setTop (mkF m 106 #[.val (.ref o0), .val (.int p1), .val (.int p2), .val (.int i), .val (.int ((own_at cs i) &&& (255 : Int32))), .val (.int (2 : Int32)), .val (.int (128 : Int32)), .val (.int (191 : Int32)), s8, s9, s10] [])) _
                        refine XS.sipush X0.here hx rfl (hb hby d3_106) ?_
                        show Steps p.tables e below (s₁.setTop (mkF m 109 #[.val (.ref o0), .val (.int p1), .val (.int p2), .val (.int i), .val (.int ((own_at cs i) &&& (255 : Int32))), .val (.int (2 : Int32)), .val (.int (128 : Int32)), .val (.int (191 : Int32)), s8, s9, s10] [(.int (159 : Int32))])) _
                        refine XS.istore X0.here hx rfl (hb hby d3_109) rfl (l' := #[.val (.ref o0), .val (.int p1), .val (.int p2), .val (.int i), .val (.int ((own_at cs i) &&& (255 : Int32))), .val (.int (2 : Int32)), .val (.int (128 : Int32)), .val (.int (159 : Int32)), s8, s9, s10]) rfl ?_
                        show Steps p.tables e below (s₁.setTop (mkF m 111 #[.val (.ref o0), .val (.int p1), .val (.int p2), .val (.int i), .val (.int ((own_at cs i) &&& (255 : Int32))), .val (.int (2 : Int32)), .val (.int (128 : Int32)), .val (.int (159 : Int32)), s8, s9, s10] [])) _
                        refine XS.goto X0.here hx rfl (pc0 := 111) (pc' := 167) rfl (hb hby d3_111) (by decide) (by decide) ?_
                        exact k)
                    · rw [show (own_lo2 cs p2 i) = (128 : Int32) from by simp only [own_lo2, if_neg hc87_39, if_neg hc103_41]]
                      rw [show (own_hi2 cs p2 i) = (191 : Int32) from by simp only [own_hi2, if_neg hc87_39, if_neg hc103_41]]
                      exact fun t k => pre40 t (by
                        show Steps p.tables e below (s₁.setTop (mkF m 103 #[.val (.ref o0), .val (.int p1), .val (.int p2), .val (.int i), .val (.int ((own_at cs i) &&& (255 : Int32))), .val (.int (2 : Int32)), .val (.int (128 : Int32)), .val (.int (191 : Int32)), s8, s9, s10] [(.int (237 : Int32)), (.int ((own_at cs i) &&& (255 : Int32)))])) _
                        refine XS.icmpYes X0.here hx rfl (pc0 := 103) (pc' := 167) rfl (hb hby d3_103) rfl (feq hc103_41).2 (by decide) (by decide) ?_
                        exact k)
                have pre42 : ∀ t, Steps p.tables e below (s₁.setTop (mkF m 172 #[.val (.ref o0), .val (.int p1), .val (.int p2), .val (.int i), .val (.int ((own_at cs i) &&& (255 : Int32))), .val (.int (2 : Int32)), .val (.int (own_lo2 cs p2 i)), .val (.int (own_hi2 cs p2 i)), s8, s9, s10] [(.int (2 : Int32)), (.int (p2 - i))])) t → Steps p.tables e below (s₁.setTop (mkF m 2 #[.val (.ref o0), .val (.int p1), .val (.int p2), .val (.int i), s4, s5, s6, s7, s8, s9, s10] [])) t := fun t k => pre37 t (by
                  show Steps p.tables e below (s₁.setTop (mkF m 167 #[.val (.ref o0), .val (.int p1), .val (.int p2), .val (.int i), .val (.int ((own_at cs i) &&& (255 : Int32))), .val (.int (2 : Int32)), .val (.int (own_lo2 cs p2 i)), .val (.int (own_hi2 cs p2 i)), s8, s9, s10] [])) _
                  refine XS.iloadN X0.here hx rfl (hb hby d3_167) rfl ?_
                  show Steps p.tables e below (s₁.setTop (mkF m 168 #[.val (.ref o0), .val (.int p1), .val (.int p2), .val (.int i), .val (.int ((own_at cs i) &&& (255 : Int32))), .val (.int (2 : Int32)), .val (.int (own_lo2 cs p2 i)), .val (.int (own_hi2 cs p2 i)), s8, s9, s10] [(.int p2)])) _
                  refine XS.iloadN X0.here hx rfl (hb hby d3_168) rfl ?_
                  show Steps p.tables e below (s₁.setTop (mkF m 169 #[.val (.ref o0), .val (.int p1), .val (.int p2), .val (.int i), .val (.int ((own_at cs i) &&& (255 : Int32))), .val (.int (2 : Int32)), .val (.int (own_lo2 cs p2 i)), .val (.int (own_hi2 cs p2 i)), s8, s9, s10] [(.int i), (.int p2)])) _
                  refine XS.isub X0.here hx rfl (hb hby d3_169) rfl ?_
                  show Steps p.tables e below (s₁.setTop (mkF m 170 #[.val (.ref o0), .val (.int p1), .val (.int p2), .val (.int i), .val (.int ((own_at cs i) &&& (255 : Int32))), .val (.int (2 : Int32)), .val (.int (own_lo2 cs p2 i)), .val (.int (own_hi2 cs p2 i)), s8, s9, s10] [(.int (p2 - i))])) _
                  refine XS.iload X0.here hx rfl (hb hby d3_170) rfl ?_
                  exact k)
                by_cases hc172_43 : (2 : Int32) < (p2 - i)
                · obtain ⟨cl44, Ar44, q44, S44, N44', H44, G44⟩ := id V_a
                  have hin44 : ¬ ((i + (1 : Int32)) < 0 ∨ cl44.slots.size ≤ ((i + (1 : Int32))).toNatClampNeg) := inb_of S44 (own_inU (n := (2 : Int32)) (k := (1 : Int32)) hi0 hlt hi2 hc172_43 (by decide) (by decide) (by decide))
                  have pre45 : ∀ t, Steps p.tables e below (s₁.setTop (mkF m 192 #[.val (.ref o0), .val (.int p1), .val (.int p2), .val (.int i), .val (.int ((own_at cs i) &&& (255 : Int32))), .val (.int (2 : Int32)), .val (.int (own_lo2 cs p2 i)), .val (.int (own_hi2 cs p2 i)), .val (.int ((own_at cs (i + (1 : Int32))) &&& (255 : Int32))), s9, s10] [(.int (own_lo2 cs p2 i)), (.int ((own_at cs (i + (1 : Int32))) &&& (255 : Int32)))])) t → Steps p.tables e below (s₁.setTop (mkF m 2 #[.val (.ref o0), .val (.int p1), .val (.int p2), .val (.int i), s4, s5, s6, s7, s8, s9, s10] [])) t := fun t k => pre42 t (by
                    show Steps p.tables e below (s₁.setTop (mkF m 172 #[.val (.ref o0), .val (.int p1), .val (.int p2), .val (.int i), .val (.int ((own_at cs i) &&& (255 : Int32))), .val (.int (2 : Int32)), .val (.int (own_lo2 cs p2 i)), .val (.int (own_hi2 cs p2 i)), s8, s9, s10] [(.int (2 : Int32)), (.int (p2 - i))])) _
                    refine XS.icmpYes X0.here hx rfl (pc0 := 172) (pc' := 177) rfl (hb hby d3_172) rfl (tlt hc172_43).2.2.1 (by decide) (by decide) ?_
                    show Steps p.tables e below (s₁.setTop (mkF m 177 #[.val (.ref o0), .val (.int p1), .val (.int p2), .val (.int i), .val (.int ((own_at cs i) &&& (255 : Int32))), .val (.int (2 : Int32)), .val (.int (own_lo2 cs p2 i)), .val (.int (own_hi2 cs p2 i)), s8, s9, s10] [])) _
                    refine XS.aloadN X0.here hx rfl (hb hby d3_177) rfl rfl ?_
                    show Steps p.tables e below (s₁.setTop (mkF m 178 #[.val (.ref o0), .val (.int p1), .val (.int p2), .val (.int i), .val (.int ((own_at cs i) &&& (255 : Int32))), .val (.int (2 : Int32)), .val (.int (own_lo2 cs p2 i)), .val (.int (own_hi2 cs p2 i)), s8, s9, s10] [(.ref o0)])) _
                    refine XS.iloadN X0.here hx rfl (hb hby d3_178) rfl ?_
                    show Steps p.tables e below (s₁.setTop (mkF m 179 #[.val (.ref o0), .val (.int p1), .val (.int p2), .val (.int i), .val (.int ((own_at cs i) &&& (255 : Int32))), .val (.int (2 : Int32)), .val (.int (own_lo2 cs p2 i)), .val (.int (own_hi2 cs p2 i)), s8, s9, s10] [(.int i), (.ref o0)])) _
                    refine XS.iconst X0.here hx rfl (hb hby d3_179) ?_
                    show Steps p.tables e below (s₁.setTop (mkF m 180 #[.val (.ref o0), .val (.int p1), .val (.int p2), .val (.int i), .val (.int ((own_at cs i) &&& (255 : Int32))), .val (.int (2 : Int32)), .val (.int (own_lo2 cs p2 i)), .val (.int (own_hi2 cs p2 i)), s8, s9, s10] [(.int (1 : Int32)), (.int i), (.ref o0)])) _
                    refine XS.iadd X0.here hx rfl (hb hby d3_180) rfl ?_
                    show Steps p.tables e below (s₁.setTop (mkF m 181 #[.val (.ref o0), .val (.int p1), .val (.int p2), .val (.int i), .val (.int ((own_at cs i) &&& (255 : Int32))), .val (.int (2 : Int32)), .val (.int (own_lo2 cs p2 i)), .val (.int (own_hi2 cs p2 i)), s8, s9, s10] [(.int (i + (1 : Int32))), (.ref o0)])) _
                    refine X0.baloadBytes hx (j := (i + (1 : Int32))) (v := (.int (own_at cs (i + (1 : Int32))))) (by rw [e0]; exact Ar44.1) (State.isArrayOf_alike hZ.alike Ar44.2.1) Ar44.2.2 hin44 (H44.at hin44 (own_getD cs _)) (g := (mkF m 181 #[.val (.ref o0), .val (.int p1), .val (.int p2), .val (.int i), .val (.int ((own_at cs i) &&& (255 : Int32))), .val (.int (2 : Int32)), .val (.int (own_lo2 cs p2 i)), .val (.int (own_hi2 cs p2 i)), s8, s9, s10] [(.int (i + (1 : Int32))), (.ref o0)])) rfl rfl (hb hby d3_181) _ ?_
                    show Steps p.tables e below (s₁.setTop (mkF m 182 #[.val (.ref o0), .val (.int p1), .val (.int p2), .val (.int i), .val (.int ((own_at cs i) &&& (255 : Int32))), .val (.int (2 : Int32)), .val (.int (own_lo2 cs p2 i)), .val (.int (own_hi2 cs p2 i)), s8, s9, s10] [(.int (own_at cs (i + (1 : Int32))))])) _
                    refine XS.sipush X0.here hx rfl (hb hby d3_182) ?_
                    show Steps p.tables e below (s₁.setTop (mkF m 185 #[.val (.ref o0), .val (.int p1), .val (.int p2), .val (.int i), .val (.int ((own_at cs i) &&& (255 : Int32))), .val (.int (2 : Int32)), .val (.int (own_lo2 cs p2 i)), .val (.int (own_hi2 cs p2 i)), s8, s9, s10] [(.int (255 : Int32)), (.int (own_at cs (i + (1 : Int32))))])) _
                    refine XS.iand X0.here hx rfl (hb hby d3_185) rfl ?_
                    show Steps p.tables e below (s₁.setTop (mkF m 186 #[.val (.ref o0), .val (.int p1), .val (.int p2), .val (.int i), .val (.int ((own_at cs i) &&& (255 : Int32))), .val (.int (2 : Int32)), .val (.int (own_lo2 cs p2 i)), .val (.int (own_hi2 cs p2 i)), s8, s9, s10] [(.int ((own_at cs (i + (1 : Int32))) &&& (255 : Int32)))])) _
                    refine XS.istore X0.here hx rfl (hb hby d3_186) rfl (l' := #[.val (.ref o0), .val (.int p1), .val (.int p2), .val (.int i), .val (.int ((own_at cs i) &&& (255 : Int32))), .val (.int (2 : Int32)), .val (.int (own_lo2 cs p2 i)), .val (.int (own_hi2 cs p2 i)), .val (.int ((own_at cs (i + (1 : Int32))) &&& (255 : Int32))), s9, s10]) (XS.store1 rfl hs8 rfl) ?_
                    show Steps p.tables e below (s₁.setTop (mkF m 188 #[.val (.ref o0), .val (.int p1), .val (.int p2), .val (.int i), .val (.int ((own_at cs i) &&& (255 : Int32))), .val (.int (2 : Int32)), .val (.int (own_lo2 cs p2 i)), .val (.int (own_hi2 cs p2 i)), .val (.int ((own_at cs (i + (1 : Int32))) &&& (255 : Int32))), s9, s10] [])) _
                    refine XS.iload X0.here hx rfl (hb hby d3_188) rfl ?_
                    show Steps p.tables e below (s₁.setTop (mkF m 190 #[.val (.ref o0), .val (.int p1), .val (.int p2), .val (.int i), .val (.int ((own_at cs i) &&& (255 : Int32))), .val (.int (2 : Int32)), .val (.int (own_lo2 cs p2 i)), .val (.int (own_hi2 cs p2 i)), .val (.int ((own_at cs (i + (1 : Int32))) &&& (255 : Int32))), s9, s10] [(.int ((own_at cs (i + (1 : Int32))) &&& (255 : Int32)))])) _
                    refine XS.iload X0.here hx rfl (hb hby d3_190) rfl ?_
                    exact k)
                  by_cases hc192_46 : ((own_at cs (i + (1 : Int32))) &&& (255 : Int32)) < (own_lo2 cs p2 i)
                  · have hrv : r = (0 : Int32) := own_stop hlt (show own_turn cs p2 i = (-1 : Int32) from by simp only [own_turn, if_pos hc14_4, if_neg hc46_6, if_pos hc54_8, if_neg hc76_10, if_pos hc172_43, if_pos hc192_46]) hq
                    rw [hrv] at hr
                    refine pre45 _ ?_
                    show Steps p.tables e below (s₁.setTop (mkF m 192 #[.val (.ref o0), .val (.int p1), .val (.int p2), .val (.int i), .val (.int ((own_at cs i) &&& (255 : Int32))), .val (.int (2 : Int32)), .val (.int (own_lo2 cs p2 i)), .val (.int (own_hi2 cs p2 i)), .val (.int ((own_at cs (i + (1 : Int32))) &&& (255 : Int32))), s9, s10] [(.int (own_lo2 cs p2 i)), (.int ((own_at cs (i + (1 : Int32))) &&& (255 : Int32)))])) _
                    refine XS.icmpYes X0.here hx rfl (pc0 := 192) (pc' := 202) rfl (hb hby d3_192) rfl (tlt hc192_46).1 (by decide) (by decide) ?_
                    show Steps p.tables e below (s₁.setTop (mkF m 202 #[.val (.ref o0), .val (.int p1), .val (.int p2), .val (.int i), .val (.int ((own_at cs i) &&& (255 : Int32))), .val (.int (2 : Int32)), .val (.int (own_lo2 cs p2 i)), .val (.int (own_hi2 cs p2 i)), .val (.int ((own_at cs (i + (1 : Int32))) &&& (255 : Int32))), s9, s10] [])) _
                    refine XS.iconst X0.here hx rfl (hb hby d3_202) ?_
                    show Steps p.tables e below (s₁.setTop (mkF m 203 #[.val (.ref o0), .val (.int p1), .val (.int p2), .val (.int i), .val (.int ((own_at cs i) &&& (255 : Int32))), .val (.int (2 : Int32)), .val (.int (own_lo2 cs p2 i)), .val (.int (own_hi2 cs p2 i)), .val (.int ((own_at cs (i + (1 : Int32))) &&& (255 : Int32))), s9, s10] [(.int (0 : Int32))])) _
                    exact retN X0 hx (t := .boolean) Bd.returns (by simp) (hb hby d3_203) hr
                  · have pre47 : ∀ t, Steps p.tables e below (s₁.setTop (mkF m 199 #[.val (.ref o0), .val (.int p1), .val (.int p2), .val (.int i), .val (.int ((own_at cs i) &&& (255 : Int32))), .val (.int (2 : Int32)), .val (.int (own_lo2 cs p2 i)), .val (.int (own_hi2 cs p2 i)), .val (.int ((own_at cs (i + (1 : Int32))) &&& (255 : Int32))), s9, s10] [(.int (own_hi2 cs p2 i)), (.int ((own_at cs (i + (1 : Int32))) &&& (255 : Int32)))])) t → Steps p.tables e below (s₁.setTop (mkF m 2 #[.val (.ref o0), .val (.int p1), .val (.int p2), .val (.int i), s4, s5, s6, s7, s8, s9, s10] [])) t := fun t k => pre45 t (by
                      show Steps p.tables e below (s₁.setTop (mkF m 192 #[.val (.ref o0), .val (.int p1), .val (.int p2), .val (.int i), .val (.int ((own_at cs i) &&& (255 : Int32))), .val (.int (2 : Int32)), .val (.int (own_lo2 cs p2 i)), .val (.int (own_hi2 cs p2 i)), .val (.int ((own_at cs (i + (1 : Int32))) &&& (255 : Int32))), s9, s10] [(.int (own_lo2 cs p2 i)), (.int ((own_at cs (i + (1 : Int32))) &&& (255 : Int32)))])) _
                      refine XS.icmpNo X0.here hx rfl (hb hby d3_192) rfl (flt hc192_46).1 ?_
                      show Steps p.tables e below (s₁.setTop (mkF m 195 #[.val (.ref o0), .val (.int p1), .val (.int p2), .val (.int i), .val (.int ((own_at cs i) &&& (255 : Int32))), .val (.int (2 : Int32)), .val (.int (own_lo2 cs p2 i)), .val (.int (own_hi2 cs p2 i)), .val (.int ((own_at cs (i + (1 : Int32))) &&& (255 : Int32))), s9, s10] [])) _
                      refine XS.iload X0.here hx rfl (hb hby d3_195) rfl ?_
                      show Steps p.tables e below (s₁.setTop (mkF m 197 #[.val (.ref o0), .val (.int p1), .val (.int p2), .val (.int i), .val (.int ((own_at cs i) &&& (255 : Int32))), .val (.int (2 : Int32)), .val (.int (own_lo2 cs p2 i)), .val (.int (own_hi2 cs p2 i)), .val (.int ((own_at cs (i + (1 : Int32))) &&& (255 : Int32))), s9, s10] [(.int ((own_at cs (i + (1 : Int32))) &&& (255 : Int32)))])) _
                      refine XS.iload X0.here hx rfl (hb hby d3_197) rfl ?_
                      exact k)
                    by_cases hc199_48 : (own_hi2 cs p2 i) < ((own_at cs (i + (1 : Int32))) &&& (255 : Int32))
                    · have hrv : r = (0 : Int32) := own_stop hlt (show own_turn cs p2 i = (-1 : Int32) from by simp only [own_turn, if_pos hc14_4, if_neg hc46_6, if_pos hc54_8, if_neg hc76_10, if_pos hc172_43, if_neg hc192_46, if_pos hc199_48]) hq
                      rw [hrv] at hr
                      refine pre47 _ ?_
                      show Steps p.tables e below (s₁.setTop (mkF m 199 #[.val (.ref o0), .val (.int p1), .val (.int p2), .val (.int i), .val (.int ((own_at cs i) &&& (255 : Int32))), .val (.int (2 : Int32)), .val (.int (own_lo2 cs p2 i)), .val (.int (own_hi2 cs p2 i)), .val (.int ((own_at cs (i + (1 : Int32))) &&& (255 : Int32))), s9, s10] [(.int (own_hi2 cs p2 i)), (.int ((own_at cs (i + (1 : Int32))) &&& (255 : Int32)))])) _
                      refine XS.icmpNo X0.here hx rfl (hb hby d3_199) rfl (tlt hc199_48).2.2.2 ?_
                      show Steps p.tables e below (s₁.setTop (mkF m 202 #[.val (.ref o0), .val (.int p1), .val (.int p2), .val (.int i), .val (.int ((own_at cs i) &&& (255 : Int32))), .val (.int (2 : Int32)), .val (.int (own_lo2 cs p2 i)), .val (.int (own_hi2 cs p2 i)), .val (.int ((own_at cs (i + (1 : Int32))) &&& (255 : Int32))), s9, s10] [])) _
                      refine XS.iconst X0.here hx rfl (hb hby d3_202) ?_
                      show Steps p.tables e below (s₁.setTop (mkF m 203 #[.val (.ref o0), .val (.int p1), .val (.int p2), .val (.int i), .val (.int ((own_at cs i) &&& (255 : Int32))), .val (.int (2 : Int32)), .val (.int (own_lo2 cs p2 i)), .val (.int (own_hi2 cs p2 i)), .val (.int ((own_at cs (i + (1 : Int32))) &&& (255 : Int32))), s9, s10] [(.int (0 : Int32))])) _
                      exact retN X0 hx (t := .boolean) Bd.returns (by simp) (hb hby d3_203) hr
                    · obtain ⟨cl49, Ar49, q49, S49, N49', H49, G49⟩ := id V_a
                      have hin49 : ¬ ((i + (2 : Int32)) < 0 ∨ cl49.slots.size ≤ ((i + (2 : Int32))).toNatClampNeg) := inb_of S49 (own_inU (n := (2 : Int32)) (k := (2 : Int32)) hi0 hlt hi2 hc172_43 (by decide) (by decide) (by decide))
                      have pre50 : ∀ t, Steps p.tables e below (s₁.setTop (mkF m 231 #[.val (.ref o0), .val (.int p1), .val (.int p2), .val (.int i), .val (.int ((own_at cs i) &&& (255 : Int32))), .val (.int (2 : Int32)), .val (.int (own_lo2 cs p2 i)), .val (.int (own_hi2 cs p2 i)), .val (.int ((own_at cs (i + (1 : Int32))) &&& (255 : Int32))), .val (.int (2 : Int32)), .val (.int ((own_at cs (i + (2 : Int32))) &&& (255 : Int32)))] [(.int (128 : Int32)), (.int ((own_at cs (i + (2 : Int32))) &&& (255 : Int32)))])) t → Steps p.tables e below (s₁.setTop (mkF m 2 #[.val (.ref o0), .val (.int p1), .val (.int p2), .val (.int i), s4, s5, s6, s7, s8, s9, s10] [])) t := fun t k => pre47 t (by
                        show Steps p.tables e below (s₁.setTop (mkF m 199 #[.val (.ref o0), .val (.int p1), .val (.int p2), .val (.int i), .val (.int ((own_at cs i) &&& (255 : Int32))), .val (.int (2 : Int32)), .val (.int (own_lo2 cs p2 i)), .val (.int (own_hi2 cs p2 i)), .val (.int ((own_at cs (i + (1 : Int32))) &&& (255 : Int32))), s9, s10] [(.int (own_hi2 cs p2 i)), (.int ((own_at cs (i + (1 : Int32))) &&& (255 : Int32)))])) _
                        refine XS.icmpYes X0.here hx rfl (pc0 := 199) (pc' := 204) rfl (hb hby d3_199) rfl (flt hc199_48).2.2.2 (by decide) (by decide) ?_
                        show Steps p.tables e below (s₁.setTop (mkF m 204 #[.val (.ref o0), .val (.int p1), .val (.int p2), .val (.int i), .val (.int ((own_at cs i) &&& (255 : Int32))), .val (.int (2 : Int32)), .val (.int (own_lo2 cs p2 i)), .val (.int (own_hi2 cs p2 i)), .val (.int ((own_at cs (i + (1 : Int32))) &&& (255 : Int32))), s9, s10] [])) _
                        refine XS.iconst X0.here hx rfl (hb hby d3_204) ?_
                        show Steps p.tables e below (s₁.setTop (mkF m 205 #[.val (.ref o0), .val (.int p1), .val (.int p2), .val (.int i), .val (.int ((own_at cs i) &&& (255 : Int32))), .val (.int (2 : Int32)), .val (.int (own_lo2 cs p2 i)), .val (.int (own_hi2 cs p2 i)), .val (.int ((own_at cs (i + (1 : Int32))) &&& (255 : Int32))), s9, s10] [(.int (2 : Int32))])) _
                        refine XS.istore X0.here hx rfl (hb hby d3_205) rfl (l' := #[.val (.ref o0), .val (.int p1), .val (.int p2), .val (.int i), .val (.int ((own_at cs i) &&& (255 : Int32))), .val (.int (2 : Int32)), .val (.int (own_lo2 cs p2 i)), .val (.int (own_hi2 cs p2 i)), .val (.int ((own_at cs (i + (1 : Int32))) &&& (255 : Int32))), .val (.int (2 : Int32)), s10]) (XS.store1 rfl hs9 rfl) ?_
                        show Steps p.tables e below (s₁.setTop (mkF m 207 #[.val (.ref o0), .val (.int p1), .val (.int p2), .val (.int i), .val (.int ((own_at cs i) &&& (255 : Int32))), .val (.int (2 : Int32)), .val (.int (own_lo2 cs p2 i)), .val (.int (own_hi2 cs p2 i)), .val (.int ((own_at cs (i + (1 : Int32))) &&& (255 : Int32))), .val (.int (2 : Int32)), s10] [])) _
                        refine XS.iload X0.here hx rfl (hb hby d3_207) rfl ?_
                        show Steps p.tables e below (s₁.setTop (mkF m 209 #[.val (.ref o0), .val (.int p1), .val (.int p2), .val (.int i), .val (.int ((own_at cs i) &&& (255 : Int32))), .val (.int (2 : Int32)), .val (.int (own_lo2 cs p2 i)), .val (.int (own_hi2 cs p2 i)), .val (.int ((own_at cs (i + (1 : Int32))) &&& (255 : Int32))), .val (.int (2 : Int32)), s10] [(.int (2 : Int32))])) _
                        refine XS.iload X0.here hx rfl (hb hby d3_209) rfl ?_
                        show Steps p.tables e below (s₁.setTop (mkF m 211 #[.val (.ref o0), .val (.int p1), .val (.int p2), .val (.int i), .val (.int ((own_at cs i) &&& (255 : Int32))), .val (.int (2 : Int32)), .val (.int (own_lo2 cs p2 i)), .val (.int (own_hi2 cs p2 i)), .val (.int ((own_at cs (i + (1 : Int32))) &&& (255 : Int32))), .val (.int (2 : Int32)), s10] [(.int (2 : Int32)), (.int (2 : Int32))])) _
                        refine XS.icmpNo X0.here hx rfl (hb hby d3_211) rfl (flt ((by decide) : ¬ ((2 : Int32) < (2 : Int32)))).2.2.1 ?_
                        show Steps p.tables e below (s₁.setTop (mkF m 214 #[.val (.ref o0), .val (.int p1), .val (.int p2), .val (.int i), .val (.int ((own_at cs i) &&& (255 : Int32))), .val (.int (2 : Int32)), .val (.int (own_lo2 cs p2 i)), .val (.int (own_hi2 cs p2 i)), .val (.int ((own_at cs (i + (1 : Int32))) &&& (255 : Int32))), .val (.int (2 : Int32)), s10] [])) _
                        refine XS.aloadN X0.here hx rfl (hb hby d3_214) rfl rfl ?_
                        show Steps p.tables e below (s₁.setTop (mkF m 215 #[.val (.ref o0), .val (.int p1), .val (.int p2), .val (.int i), .val (.int ((own_at cs i) &&& (255 : Int32))), .val (.int (2 : Int32)), .val (.int (own_lo2 cs p2 i)), .val (.int (own_hi2 cs p2 i)), .val (.int ((own_at cs (i + (1 : Int32))) &&& (255 : Int32))), .val (.int (2 : Int32)), s10] [(.ref o0)])) _
                        refine XS.iloadN X0.here hx rfl (hb hby d3_215) rfl ?_
                        show Steps p.tables e below (s₁.setTop (mkF m 216 #[.val (.ref o0), .val (.int p1), .val (.int p2), .val (.int i), .val (.int ((own_at cs i) &&& (255 : Int32))), .val (.int (2 : Int32)), .val (.int (own_lo2 cs p2 i)), .val (.int (own_hi2 cs p2 i)), .val (.int ((own_at cs (i + (1 : Int32))) &&& (255 : Int32))), .val (.int (2 : Int32)), s10] [(.int i), (.ref o0)])) _
                        refine XS.iload X0.here hx rfl (hb hby d3_216) rfl ?_
                        show Steps p.tables e below (s₁.setTop (mkF m 218 #[.val (.ref o0), .val (.int p1), .val (.int p2), .val (.int i), .val (.int ((own_at cs i) &&& (255 : Int32))), .val (.int (2 : Int32)), .val (.int (own_lo2 cs p2 i)), .val (.int (own_hi2 cs p2 i)), .val (.int ((own_at cs (i + (1 : Int32))) &&& (255 : Int32))), .val (.int (2 : Int32)), s10] [(.int (2 : Int32)), (.int i), (.ref o0)])) _
                        refine XS.iadd X0.here hx rfl (hb hby d3_218) rfl ?_
                        show Steps p.tables e below (s₁.setTop (mkF m 219 #[.val (.ref o0), .val (.int p1), .val (.int p2), .val (.int i), .val (.int ((own_at cs i) &&& (255 : Int32))), .val (.int (2 : Int32)), .val (.int (own_lo2 cs p2 i)), .val (.int (own_hi2 cs p2 i)), .val (.int ((own_at cs (i + (1 : Int32))) &&& (255 : Int32))), .val (.int (2 : Int32)), s10] [(.int (i + (2 : Int32))), (.ref o0)])) _
                        refine X0.baloadBytes hx (j := (i + (2 : Int32))) (v := (.int (own_at cs (i + (2 : Int32))))) (by rw [e0]; exact Ar49.1) (State.isArrayOf_alike hZ.alike Ar49.2.1) Ar49.2.2 hin49 (H49.at hin49 (own_getD cs _)) (g := (mkF m 219 #[.val (.ref o0), .val (.int p1), .val (.int p2), .val (.int i), .val (.int ((own_at cs i) &&& (255 : Int32))), .val (.int (2 : Int32)), .val (.int (own_lo2 cs p2 i)), .val (.int (own_hi2 cs p2 i)), .val (.int ((own_at cs (i + (1 : Int32))) &&& (255 : Int32))), .val (.int (2 : Int32)), s10] [(.int (i + (2 : Int32))), (.ref o0)])) rfl rfl (hb hby d3_219) _ ?_
                        show Steps p.tables e below (s₁.setTop (mkF m 220 #[.val (.ref o0), .val (.int p1), .val (.int p2), .val (.int i), .val (.int ((own_at cs i) &&& (255 : Int32))), .val (.int (2 : Int32)), .val (.int (own_lo2 cs p2 i)), .val (.int (own_hi2 cs p2 i)), .val (.int ((own_at cs (i + (1 : Int32))) &&& (255 : Int32))), .val (.int (2 : Int32)), s10] [(.int (own_at cs (i + (2 : Int32))))])) _
                        refine XS.sipush X0.here hx rfl (hb hby d3_220) ?_
                        show Steps p.tables e below (s₁.setTop (mkF m 223 #[.val (.ref o0), .val (.int p1), .val (.int p2), .val (.int i), .val (.int ((own_at cs i) &&& (255 : Int32))), .val (.int (2 : Int32)), .val (.int (own_lo2 cs p2 i)), .val (.int (own_hi2 cs p2 i)), .val (.int ((own_at cs (i + (1 : Int32))) &&& (255 : Int32))), .val (.int (2 : Int32)), s10] [(.int (255 : Int32)), (.int (own_at cs (i + (2 : Int32))))])) _
                        refine XS.iand X0.here hx rfl (hb hby d3_223) rfl ?_
                        show Steps p.tables e below (s₁.setTop (mkF m 224 #[.val (.ref o0), .val (.int p1), .val (.int p2), .val (.int i), .val (.int ((own_at cs i) &&& (255 : Int32))), .val (.int (2 : Int32)), .val (.int (own_lo2 cs p2 i)), .val (.int (own_hi2 cs p2 i)), .val (.int ((own_at cs (i + (1 : Int32))) &&& (255 : Int32))), .val (.int (2 : Int32)), s10] [(.int ((own_at cs (i + (2 : Int32))) &&& (255 : Int32)))])) _
                        refine XS.istore X0.here hx rfl (hb hby d3_224) rfl (l' := #[.val (.ref o0), .val (.int p1), .val (.int p2), .val (.int i), .val (.int ((own_at cs i) &&& (255 : Int32))), .val (.int (2 : Int32)), .val (.int (own_lo2 cs p2 i)), .val (.int (own_hi2 cs p2 i)), .val (.int ((own_at cs (i + (1 : Int32))) &&& (255 : Int32))), .val (.int (2 : Int32)), .val (.int ((own_at cs (i + (2 : Int32))) &&& (255 : Int32)))]) (XS.store1 rfl hs10 rfl) ?_
                        show Steps p.tables e below (s₁.setTop (mkF m 226 #[.val (.ref o0), .val (.int p1), .val (.int p2), .val (.int i), .val (.int ((own_at cs i) &&& (255 : Int32))), .val (.int (2 : Int32)), .val (.int (own_lo2 cs p2 i)), .val (.int (own_hi2 cs p2 i)), .val (.int ((own_at cs (i + (1 : Int32))) &&& (255 : Int32))), .val (.int (2 : Int32)), .val (.int ((own_at cs (i + (2 : Int32))) &&& (255 : Int32)))] [])) _
                        refine XS.iload X0.here hx rfl (hb hby d3_226) rfl ?_
                        show Steps p.tables e below (s₁.setTop (mkF m 228 #[.val (.ref o0), .val (.int p1), .val (.int p2), .val (.int i), .val (.int ((own_at cs i) &&& (255 : Int32))), .val (.int (2 : Int32)), .val (.int (own_lo2 cs p2 i)), .val (.int (own_hi2 cs p2 i)), .val (.int ((own_at cs (i + (1 : Int32))) &&& (255 : Int32))), .val (.int (2 : Int32)), .val (.int ((own_at cs (i + (2 : Int32))) &&& (255 : Int32)))] [(.int ((own_at cs (i + (2 : Int32))) &&& (255 : Int32)))])) _
                        refine XS.sipush X0.here hx rfl (hb hby d3_228) ?_
                        exact k)
                      by_cases hc231_51 : ((own_at cs (i + (2 : Int32))) &&& (255 : Int32)) < (128 : Int32)
                      · have hrv : r = (0 : Int32) := own_stop hlt (show own_turn cs p2 i = (-1 : Int32) from by simp only [own_turn, if_pos hc14_4, if_neg hc46_6, if_pos hc54_8, if_neg hc76_10, if_pos hc172_43, if_neg hc192_46, if_neg hc199_48, if_pos hc231_51]) hq
                        rw [hrv] at hr
                        refine pre50 _ ?_
                        show Steps p.tables e below (s₁.setTop (mkF m 231 #[.val (.ref o0), .val (.int p1), .val (.int p2), .val (.int i), .val (.int ((own_at cs i) &&& (255 : Int32))), .val (.int (2 : Int32)), .val (.int (own_lo2 cs p2 i)), .val (.int (own_hi2 cs p2 i)), .val (.int ((own_at cs (i + (1 : Int32))) &&& (255 : Int32))), .val (.int (2 : Int32)), .val (.int ((own_at cs (i + (2 : Int32))) &&& (255 : Int32)))] [(.int (128 : Int32)), (.int ((own_at cs (i + (2 : Int32))) &&& (255 : Int32)))])) _
                        refine XS.icmpYes X0.here hx rfl (pc0 := 231) (pc' := 242) rfl (hb hby d3_231) rfl (tlt hc231_51).1 (by decide) (by decide) ?_
                        show Steps p.tables e below (s₁.setTop (mkF m 242 #[.val (.ref o0), .val (.int p1), .val (.int p2), .val (.int i), .val (.int ((own_at cs i) &&& (255 : Int32))), .val (.int (2 : Int32)), .val (.int (own_lo2 cs p2 i)), .val (.int (own_hi2 cs p2 i)), .val (.int ((own_at cs (i + (1 : Int32))) &&& (255 : Int32))), .val (.int (2 : Int32)), .val (.int ((own_at cs (i + (2 : Int32))) &&& (255 : Int32)))] [])) _
                        refine XS.iconst X0.here hx rfl (hb hby d3_242) ?_
                        show Steps p.tables e below (s₁.setTop (mkF m 243 #[.val (.ref o0), .val (.int p1), .val (.int p2), .val (.int i), .val (.int ((own_at cs i) &&& (255 : Int32))), .val (.int (2 : Int32)), .val (.int (own_lo2 cs p2 i)), .val (.int (own_hi2 cs p2 i)), .val (.int ((own_at cs (i + (1 : Int32))) &&& (255 : Int32))), .val (.int (2 : Int32)), .val (.int ((own_at cs (i + (2 : Int32))) &&& (255 : Int32)))] [(.int (0 : Int32))])) _
                        exact retN X0 hx (t := .boolean) Bd.returns (by simp) (hb hby d3_243) hr
                      · have pre52 : ∀ t, Steps p.tables e below (s₁.setTop (mkF m 239 #[.val (.ref o0), .val (.int p1), .val (.int p2), .val (.int i), .val (.int ((own_at cs i) &&& (255 : Int32))), .val (.int (2 : Int32)), .val (.int (own_lo2 cs p2 i)), .val (.int (own_hi2 cs p2 i)), .val (.int ((own_at cs (i + (1 : Int32))) &&& (255 : Int32))), .val (.int (2 : Int32)), .val (.int ((own_at cs (i + (2 : Int32))) &&& (255 : Int32)))] [(.int (191 : Int32)), (.int ((own_at cs (i + (2 : Int32))) &&& (255 : Int32)))])) t → Steps p.tables e below (s₁.setTop (mkF m 2 #[.val (.ref o0), .val (.int p1), .val (.int p2), .val (.int i), s4, s5, s6, s7, s8, s9, s10] [])) t := fun t k => pre50 t (by
                          show Steps p.tables e below (s₁.setTop (mkF m 231 #[.val (.ref o0), .val (.int p1), .val (.int p2), .val (.int i), .val (.int ((own_at cs i) &&& (255 : Int32))), .val (.int (2 : Int32)), .val (.int (own_lo2 cs p2 i)), .val (.int (own_hi2 cs p2 i)), .val (.int ((own_at cs (i + (1 : Int32))) &&& (255 : Int32))), .val (.int (2 : Int32)), .val (.int ((own_at cs (i + (2 : Int32))) &&& (255 : Int32)))] [(.int (128 : Int32)), (.int ((own_at cs (i + (2 : Int32))) &&& (255 : Int32)))])) _
                          refine XS.icmpNo X0.here hx rfl (hb hby d3_231) rfl (flt hc231_51).1 ?_
                          show Steps p.tables e below (s₁.setTop (mkF m 234 #[.val (.ref o0), .val (.int p1), .val (.int p2), .val (.int i), .val (.int ((own_at cs i) &&& (255 : Int32))), .val (.int (2 : Int32)), .val (.int (own_lo2 cs p2 i)), .val (.int (own_hi2 cs p2 i)), .val (.int ((own_at cs (i + (1 : Int32))) &&& (255 : Int32))), .val (.int (2 : Int32)), .val (.int ((own_at cs (i + (2 : Int32))) &&& (255 : Int32)))] [])) _
                          refine XS.iload X0.here hx rfl (hb hby d3_234) rfl ?_
                          show Steps p.tables e below (s₁.setTop (mkF m 236 #[.val (.ref o0), .val (.int p1), .val (.int p2), .val (.int i), .val (.int ((own_at cs i) &&& (255 : Int32))), .val (.int (2 : Int32)), .val (.int (own_lo2 cs p2 i)), .val (.int (own_hi2 cs p2 i)), .val (.int ((own_at cs (i + (1 : Int32))) &&& (255 : Int32))), .val (.int (2 : Int32)), .val (.int ((own_at cs (i + (2 : Int32))) &&& (255 : Int32)))] [(.int ((own_at cs (i + (2 : Int32))) &&& (255 : Int32)))])) _
                          refine XS.sipush X0.here hx rfl (hb hby d3_236) ?_
                          exact k)
                        by_cases hc239_53 : (191 : Int32) < ((own_at cs (i + (2 : Int32))) &&& (255 : Int32))
                        · have hrv : r = (0 : Int32) := own_stop hlt (show own_turn cs p2 i = (-1 : Int32) from by simp only [own_turn, if_pos hc14_4, if_neg hc46_6, if_pos hc54_8, if_neg hc76_10, if_pos hc172_43, if_neg hc192_46, if_neg hc199_48, if_neg hc231_51, if_pos hc239_53]) hq
                          rw [hrv] at hr
                          refine pre52 _ ?_
                          show Steps p.tables e below (s₁.setTop (mkF m 239 #[.val (.ref o0), .val (.int p1), .val (.int p2), .val (.int i), .val (.int ((own_at cs i) &&& (255 : Int32))), .val (.int (2 : Int32)), .val (.int (own_lo2 cs p2 i)), .val (.int (own_hi2 cs p2 i)), .val (.int ((own_at cs (i + (1 : Int32))) &&& (255 : Int32))), .val (.int (2 : Int32)), .val (.int ((own_at cs (i + (2 : Int32))) &&& (255 : Int32)))] [(.int (191 : Int32)), (.int ((own_at cs (i + (2 : Int32))) &&& (255 : Int32)))])) _
                          refine XS.icmpNo X0.here hx rfl (hb hby d3_239) rfl (tlt hc239_53).2.2.2 ?_
                          show Steps p.tables e below (s₁.setTop (mkF m 242 #[.val (.ref o0), .val (.int p1), .val (.int p2), .val (.int i), .val (.int ((own_at cs i) &&& (255 : Int32))), .val (.int (2 : Int32)), .val (.int (own_lo2 cs p2 i)), .val (.int (own_hi2 cs p2 i)), .val (.int ((own_at cs (i + (1 : Int32))) &&& (255 : Int32))), .val (.int (2 : Int32)), .val (.int ((own_at cs (i + (2 : Int32))) &&& (255 : Int32)))] [])) _
                          refine XS.iconst X0.here hx rfl (hb hby d3_242) ?_
                          show Steps p.tables e below (s₁.setTop (mkF m 243 #[.val (.ref o0), .val (.int p1), .val (.int p2), .val (.int i), .val (.int ((own_at cs i) &&& (255 : Int32))), .val (.int (2 : Int32)), .val (.int (own_lo2 cs p2 i)), .val (.int (own_hi2 cs p2 i)), .val (.int ((own_at cs (i + (1 : Int32))) &&& (255 : Int32))), .val (.int (2 : Int32)), .val (.int ((own_at cs (i + (2 : Int32))) &&& (255 : Int32)))] [(.int (0 : Int32))])) _
                          exact retN X0 hx (t := .boolean) Bd.returns (by simp) (hb hby d3_243) hr
                        · have hbd := own_nbn (n := (2 : Int32)) (m := (3 : Int32)) hi0 hlt hi2 hk hc172_43 (by decide) (by decide) (by decide)
                          have hq2 : r = own_utf cs p2 k (i + (3 : Int32)) := own_go hlt (show own_turn cs p2 i = (i + (3 : Int32)) from by simp only [own_turn, if_pos hc14_4, if_neg hc46_6, if_pos hc54_8, if_neg hc76_10, if_pos hc172_43, if_neg hc192_46, if_neg hc199_48, if_neg hc231_51, if_neg hc239_53]) hbd.1 hq
                          refine pre52 _ ?_
                          show Steps p.tables e below (s₁.setTop (mkF m 239 #[.val (.ref o0), .val (.int p1), .val (.int p2), .val (.int i), .val (.int ((own_at cs i) &&& (255 : Int32))), .val (.int (2 : Int32)), .val (.int (own_lo2 cs p2 i)), .val (.int (own_hi2 cs p2 i)), .val (.int ((own_at cs (i + (1 : Int32))) &&& (255 : Int32))), .val (.int (2 : Int32)), .val (.int ((own_at cs (i + (2 : Int32))) &&& (255 : Int32)))] [(.int (191 : Int32)), (.int ((own_at cs (i + (2 : Int32))) &&& (255 : Int32)))])) _
                          refine XS.icmpYes X0.here hx rfl (pc0 := 239) (pc' := 244) rfl (hb hby d3_239) rfl (flt hc239_53).2.2.2 (by decide) (by decide) ?_
                          show Steps p.tables e below (s₁.setTop (mkF m 244 #[.val (.ref o0), .val (.int p1), .val (.int p2), .val (.int i), .val (.int ((own_at cs i) &&& (255 : Int32))), .val (.int (2 : Int32)), .val (.int (own_lo2 cs p2 i)), .val (.int (own_hi2 cs p2 i)), .val (.int ((own_at cs (i + (1 : Int32))) &&& (255 : Int32))), .val (.int (2 : Int32)), .val (.int ((own_at cs (i + (2 : Int32))) &&& (255 : Int32)))] [])) _
                          refine XS.iinc X0.here hx rfl (hb hby d3_244) rfl (l' := #[.val (.ref o0), .val (.int p1), .val (.int p2), .val (.int i), .val (.int ((own_at cs i) &&& (255 : Int32))), .val (.int (2 : Int32)), .val (.int (own_lo2 cs p2 i)), .val (.int (own_hi2 cs p2 i)), .val (.int ((own_at cs (i + (1 : Int32))) &&& (255 : Int32))), .val (.int (3 : Int32)), .val (.int ((own_at cs (i + (2 : Int32))) &&& (255 : Int32)))]) rfl ?_
                          show Steps p.tables e below (s₁.setTop (mkF m 247 #[.val (.ref o0), .val (.int p1), .val (.int p2), .val (.int i), .val (.int ((own_at cs i) &&& (255 : Int32))), .val (.int (2 : Int32)), .val (.int (own_lo2 cs p2 i)), .val (.int (own_hi2 cs p2 i)), .val (.int ((own_at cs (i + (1 : Int32))) &&& (255 : Int32))), .val (.int (3 : Int32)), .val (.int ((own_at cs (i + (2 : Int32))) &&& (255 : Int32)))] [])) _
                          refine XS.goto X0.here hx rfl (pc0 := 247) (pc' := 207) rfl (hb hby d3_247) (by decide) (by decide) ?_
                          show Steps p.tables e below (s₁.setTop (mkF m 207 #[.val (.ref o0), .val (.int p1), .val (.int p2), .val (.int i), .val (.int ((own_at cs i) &&& (255 : Int32))), .val (.int (2 : Int32)), .val (.int (own_lo2 cs p2 i)), .val (.int (own_hi2 cs p2 i)), .val (.int ((own_at cs (i + (1 : Int32))) &&& (255 : Int32))), .val (.int (3 : Int32)), .val (.int ((own_at cs (i + (2 : Int32))) &&& (255 : Int32)))] [])) _
                          refine XS.iload X0.here hx rfl (hb hby d3_207) rfl ?_
                          show Steps p.tables e below (s₁.setTop (mkF m 209 #[.val (.ref o0), .val (.int p1), .val (.int p2), .val (.int i), .val (.int ((own_at cs i) &&& (255 : Int32))), .val (.int (2 : Int32)), .val (.int (own_lo2 cs p2 i)), .val (.int (own_hi2 cs p2 i)), .val (.int ((own_at cs (i + (1 : Int32))) &&& (255 : Int32))), .val (.int (3 : Int32)), .val (.int ((own_at cs (i + (2 : Int32))) &&& (255 : Int32)))] [(.int (3 : Int32))])) _
                          refine XS.iload X0.here hx rfl (hb hby d3_209) rfl ?_
                          show Steps p.tables e below (s₁.setTop (mkF m 211 #[.val (.ref o0), .val (.int p1), .val (.int p2), .val (.int i), .val (.int ((own_at cs i) &&& (255 : Int32))), .val (.int (2 : Int32)), .val (.int (own_lo2 cs p2 i)), .val (.int (own_hi2 cs p2 i)), .val (.int ((own_at cs (i + (1 : Int32))) &&& (255 : Int32))), .val (.int (3 : Int32)), .val (.int ((own_at cs (i + (2 : Int32))) &&& (255 : Int32)))] [(.int (2 : Int32)), (.int (3 : Int32))])) _
                          refine XS.icmpYes X0.here hx rfl (pc0 := 211) (pc' := 250) rfl (hb hby d3_211) rfl (tlt ((by decide) : (2 : Int32) < (3 : Int32))).2.2.1 (by decide) (by decide) ?_
                          show Steps p.tables e below (s₁.setTop (mkF m 250 #[.val (.ref o0), .val (.int p1), .val (.int p2), .val (.int i), .val (.int ((own_at cs i) &&& (255 : Int32))), .val (.int (2 : Int32)), .val (.int (own_lo2 cs p2 i)), .val (.int (own_hi2 cs p2 i)), .val (.int ((own_at cs (i + (1 : Int32))) &&& (255 : Int32))), .val (.int (3 : Int32)), .val (.int ((own_at cs (i + (2 : Int32))) &&& (255 : Int32)))] [])) _
                          refine XS.iloadN X0.here hx rfl (hb hby d3_250) rfl ?_
                          show Steps p.tables e below (s₁.setTop (mkF m 251 #[.val (.ref o0), .val (.int p1), .val (.int p2), .val (.int i), .val (.int ((own_at cs i) &&& (255 : Int32))), .val (.int (2 : Int32)), .val (.int (own_lo2 cs p2 i)), .val (.int (own_hi2 cs p2 i)), .val (.int ((own_at cs (i + (1 : Int32))) &&& (255 : Int32))), .val (.int (3 : Int32)), .val (.int ((own_at cs (i + (2 : Int32))) &&& (255 : Int32)))] [(.int i)])) _
                          refine XS.iload X0.here hx rfl (hb hby d3_251) rfl ?_
                          show Steps p.tables e below (s₁.setTop (mkF m 253 #[.val (.ref o0), .val (.int p1), .val (.int p2), .val (.int i), .val (.int ((own_at cs i) &&& (255 : Int32))), .val (.int (2 : Int32)), .val (.int (own_lo2 cs p2 i)), .val (.int (own_hi2 cs p2 i)), .val (.int ((own_at cs (i + (1 : Int32))) &&& (255 : Int32))), .val (.int (3 : Int32)), .val (.int ((own_at cs (i + (2 : Int32))) &&& (255 : Int32)))] [(.int (2 : Int32)), (.int i)])) _
                          refine XS.iconst X0.here hx rfl (hb hby d3_253) ?_
                          show Steps p.tables e below (s₁.setTop (mkF m 254 #[.val (.ref o0), .val (.int p1), .val (.int p2), .val (.int i), .val (.int ((own_at cs i) &&& (255 : Int32))), .val (.int (2 : Int32)), .val (.int (own_lo2 cs p2 i)), .val (.int (own_hi2 cs p2 i)), .val (.int ((own_at cs (i + (1 : Int32))) &&& (255 : Int32))), .val (.int (3 : Int32)), .val (.int ((own_at cs (i + (2 : Int32))) &&& (255 : Int32)))] [(.int (1 : Int32)), (.int (2 : Int32)), (.int i)])) _
                          refine XS.iadd X0.here hx rfl (hb hby d3_254) rfl ?_
                          rw [show ((2 : Int32) + (1 : Int32)) = (3 : Int32) from by decide]
                          show Steps p.tables e below (s₁.setTop (mkF m 255 #[.val (.ref o0), .val (.int p1), .val (.int p2), .val (.int i), .val (.int ((own_at cs i) &&& (255 : Int32))), .val (.int (2 : Int32)), .val (.int (own_lo2 cs p2 i)), .val (.int (own_hi2 cs p2 i)), .val (.int ((own_at cs (i + (1 : Int32))) &&& (255 : Int32))), .val (.int (3 : Int32)), .val (.int ((own_at cs (i + (2 : Int32))) &&& (255 : Int32)))] [(.int (3 : Int32)), (.int i)])) _
                          refine XS.iadd X0.here hx rfl (hb hby d3_255) rfl ?_
                          show Steps p.tables e below (s₁.setTop (mkF m 256 #[.val (.ref o0), .val (.int p1), .val (.int p2), .val (.int i), .val (.int ((own_at cs i) &&& (255 : Int32))), .val (.int (2 : Int32)), .val (.int (own_lo2 cs p2 i)), .val (.int (own_hi2 cs p2 i)), .val (.int ((own_at cs (i + (1 : Int32))) &&& (255 : Int32))), .val (.int (3 : Int32)), .val (.int ((own_at cs (i + (2 : Int32))) &&& (255 : Int32)))] [(.int (i + (3 : Int32)))])) _
                          refine XS.istoreN X0.here hx rfl (hb hby d3_256) rfl (l' := #[.val (.ref o0), .val (.int p1), .val (.int p2), .val (.int (i + (3 : Int32))), .val (.int ((own_at cs i) &&& (255 : Int32))), .val (.int (2 : Int32)), .val (.int (own_lo2 cs p2 i)), .val (.int (own_hi2 cs p2 i)), .val (.int ((own_at cs (i + (1 : Int32))) &&& (255 : Int32))), .val (.int (3 : Int32)), .val (.int ((own_at cs (i + (2 : Int32))) &&& (255 : Int32)))]) rfl ?_
                          show Steps p.tables e below (s₁.setTop (mkF m 257 #[.val (.ref o0), .val (.int p1), .val (.int p2), .val (.int (i + (3 : Int32))), .val (.int ((own_at cs i) &&& (255 : Int32))), .val (.int (2 : Int32)), .val (.int (own_lo2 cs p2 i)), .val (.int (own_hi2 cs p2 i)), .val (.int ((own_at cs (i + (1 : Int32))) &&& (255 : Int32))), .val (.int (3 : Int32)), .val (.int ((own_at cs (i + (2 : Int32))) &&& (255 : Int32)))] [])) _
                          refine XS.goto X0.here hx rfl (pc0 := 257) (pc' := 2) rfl (hb hby d3_257) (by decide) (by decide) ?_
                          exact ih _ _ _ _ _ _ _ _ (One.val rfl) (One.val rfl) (One.val rfl) (One.val rfl) (One.val rfl) (One.val rfl) (One.val rfl) hbd.1 hbd.2.1 hbd.2.2 hq2
                · have hrv : r = (0 : Int32) := own_stop hlt (show own_turn cs p2 i = (-1 : Int32) from by simp only [own_turn, if_pos hc14_4, if_neg hc46_6, if_pos hc54_8, if_neg hc76_10, if_neg hc172_43]) hq
                  rw [hrv] at hr
                  refine pre42 _ ?_
                  show Steps p.tables e below (s₁.setTop (mkF m 172 #[.val (.ref o0), .val (.int p1), .val (.int p2), .val (.int i), .val (.int ((own_at cs i) &&& (255 : Int32))), .val (.int (2 : Int32)), .val (.int (own_lo2 cs p2 i)), .val (.int (own_hi2 cs p2 i)), s8, s9, s10] [(.int (2 : Int32)), (.int (p2 - i))])) _
                  refine XS.icmpNo X0.here hx rfl (hb hby d3_172) rfl (flt hc172_43).2.2.1 ?_
                  show Steps p.tables e below (s₁.setTop (mkF m 175 #[.val (.ref o0), .val (.int p1), .val (.int p2), .val (.int i), .val (.int ((own_at cs i) &&& (255 : Int32))), .val (.int (2 : Int32)), .val (.int (own_lo2 cs p2 i)), .val (.int (own_hi2 cs p2 i)), s8, s9, s10] [])) _
                  refine XS.iconst X0.here hx rfl (hb hby d3_175) ?_
                  show Steps p.tables e below (s₁.setTop (mkF m 176 #[.val (.ref o0), .val (.int p1), .val (.int p2), .val (.int i), .val (.int ((own_at cs i) &&& (255 : Int32))), .val (.int (2 : Int32)), .val (.int (own_lo2 cs p2 i)), .val (.int (own_hi2 cs p2 i)), s8, s9, s10] [(.int (0 : Int32))])) _
                  exact retN X0 hx (t := .boolean) Bd.returns (by simp) (hb hby d3_176) hr
            · have pre54 : ∀ t, Steps p.tables e below (s₁.setTop (mkF m 172 #[.val (.ref o0), .val (.int p1), .val (.int p2), .val (.int i), .val (.int ((own_at cs i) &&& (255 : Int32))), .val (.int (1 : Int32)), .val (.int (128 : Int32)), .val (.int (191 : Int32)), s8, s9, s10] [(.int (1 : Int32)), (.int (p2 - i))])) t → Steps p.tables e below (s₁.setTop (mkF m 2 #[.val (.ref o0), .val (.int p1), .val (.int p2), .val (.int i), s4, s5, s6, s7, s8, s9, s10] [])) t := fun t k => pre7 t (by
                show Steps p.tables e below (s₁.setTop (mkF m 54 #[.val (.ref o0), .val (.int p1), .val (.int p2), .val (.int i), .val (.int ((own_at cs i) &&& (255 : Int32))), s5, .val (.int (128 : Int32)), .val (.int (191 : Int32)), s8, s9, s10] [(.int (223 : Int32)), (.int ((own_at cs i) &&& (255 : Int32)))])) _
                refine XS.icmpNo X0.here hx rfl (hb hby d3_54) rfl (flt hc54_8).2.2.1 ?_
                show Steps p.tables e below (s₁.setTop (mkF m 57 #[.val (.ref o0), .val (.int p1), .val (.int p2), .val (.int i), .val (.int ((own_at cs i) &&& (255 : Int32))), s5, .val (.int (128 : Int32)), .val (.int (191 : Int32)), s8, s9, s10] [])) _
                refine XS.iconst X0.here hx rfl (hb hby d3_57) ?_
                show Steps p.tables e below (s₁.setTop (mkF m 58 #[.val (.ref o0), .val (.int p1), .val (.int p2), .val (.int i), .val (.int ((own_at cs i) &&& (255 : Int32))), s5, .val (.int (128 : Int32)), .val (.int (191 : Int32)), s8, s9, s10] [(.int (1 : Int32))])) _
                refine XS.istore X0.here hx rfl (hb hby d3_58) rfl (l' := #[.val (.ref o0), .val (.int p1), .val (.int p2), .val (.int i), .val (.int ((own_at cs i) &&& (255 : Int32))), .val (.int (1 : Int32)), .val (.int (128 : Int32)), .val (.int (191 : Int32)), s8, s9, s10]) (XS.store1 rfl hs5 rfl) ?_
                show Steps p.tables e below (s₁.setTop (mkF m 60 #[.val (.ref o0), .val (.int p1), .val (.int p2), .val (.int i), .val (.int ((own_at cs i) &&& (255 : Int32))), .val (.int (1 : Int32)), .val (.int (128 : Int32)), .val (.int (191 : Int32)), s8, s9, s10] [])) _
                refine XS.goto X0.here hx rfl (pc0 := 60) (pc' := 167) rfl (hb hby d3_60) (by decide) (by decide) ?_
                show Steps p.tables e below (s₁.setTop (mkF m 167 #[.val (.ref o0), .val (.int p1), .val (.int p2), .val (.int i), .val (.int ((own_at cs i) &&& (255 : Int32))), .val (.int (1 : Int32)), .val (.int (128 : Int32)), .val (.int (191 : Int32)), s8, s9, s10] [])) _
                refine XS.iloadN X0.here hx rfl (hb hby d3_167) rfl ?_
                show Steps p.tables e below (s₁.setTop (mkF m 168 #[.val (.ref o0), .val (.int p1), .val (.int p2), .val (.int i), .val (.int ((own_at cs i) &&& (255 : Int32))), .val (.int (1 : Int32)), .val (.int (128 : Int32)), .val (.int (191 : Int32)), s8, s9, s10] [(.int p2)])) _
                refine XS.iloadN X0.here hx rfl (hb hby d3_168) rfl ?_
                show Steps p.tables e below (s₁.setTop (mkF m 169 #[.val (.ref o0), .val (.int p1), .val (.int p2), .val (.int i), .val (.int ((own_at cs i) &&& (255 : Int32))), .val (.int (1 : Int32)), .val (.int (128 : Int32)), .val (.int (191 : Int32)), s8, s9, s10] [(.int i), (.int p2)])) _
                refine XS.isub X0.here hx rfl (hb hby d3_169) rfl ?_
                show Steps p.tables e below (s₁.setTop (mkF m 170 #[.val (.ref o0), .val (.int p1), .val (.int p2), .val (.int i), .val (.int ((own_at cs i) &&& (255 : Int32))), .val (.int (1 : Int32)), .val (.int (128 : Int32)), .val (.int (191 : Int32)), s8, s9, s10] [(.int (p2 - i))])) _
                refine XS.iload X0.here hx rfl (hb hby d3_170) rfl ?_
                exact k)
              by_cases hc172_55 : (1 : Int32) < (p2 - i)
              · obtain ⟨cl56, Ar56, q56, S56, N56', H56, G56⟩ := id V_a
                have hin56 : ¬ ((i + (1 : Int32)) < 0 ∨ cl56.slots.size ≤ ((i + (1 : Int32))).toNatClampNeg) := inb_of S56 (own_inU (n := (1 : Int32)) (k := (1 : Int32)) hi0 hlt hi2 hc172_55 (by decide) (by decide) (by decide))
                have pre57 : ∀ t, Steps p.tables e below (s₁.setTop (mkF m 192 #[.val (.ref o0), .val (.int p1), .val (.int p2), .val (.int i), .val (.int ((own_at cs i) &&& (255 : Int32))), .val (.int (1 : Int32)), .val (.int (128 : Int32)), .val (.int (191 : Int32)), .val (.int ((own_at cs (i + (1 : Int32))) &&& (255 : Int32))), s9, s10] [(.int (128 : Int32)), (.int ((own_at cs (i + (1 : Int32))) &&& (255 : Int32)))])) t → Steps p.tables e below (s₁.setTop (mkF m 2 #[.val (.ref o0), .val (.int p1), .val (.int p2), .val (.int i), s4, s5, s6, s7, s8, s9, s10] [])) t := fun t k => pre54 t (by
                  show Steps p.tables e below (s₁.setTop (mkF m 172 #[.val (.ref o0), .val (.int p1), .val (.int p2), .val (.int i), .val (.int ((own_at cs i) &&& (255 : Int32))), .val (.int (1 : Int32)), .val (.int (128 : Int32)), .val (.int (191 : Int32)), s8, s9, s10] [(.int (1 : Int32)), (.int (p2 - i))])) _
                  refine XS.icmpYes X0.here hx rfl (pc0 := 172) (pc' := 177) rfl (hb hby d3_172) rfl (tlt hc172_55).2.2.1 (by decide) (by decide) ?_
                  show Steps p.tables e below (s₁.setTop (mkF m 177 #[.val (.ref o0), .val (.int p1), .val (.int p2), .val (.int i), .val (.int ((own_at cs i) &&& (255 : Int32))), .val (.int (1 : Int32)), .val (.int (128 : Int32)), .val (.int (191 : Int32)), s8, s9, s10] [])) _
                  refine XS.aloadN X0.here hx rfl (hb hby d3_177) rfl rfl ?_
                  show Steps p.tables e below (s₁.setTop (mkF m 178 #[.val (.ref o0), .val (.int p1), .val (.int p2), .val (.int i), .val (.int ((own_at cs i) &&& (255 : Int32))), .val (.int (1 : Int32)), .val (.int (128 : Int32)), .val (.int (191 : Int32)), s8, s9, s10] [(.ref o0)])) _
                  refine XS.iloadN X0.here hx rfl (hb hby d3_178) rfl ?_
                  show Steps p.tables e below (s₁.setTop (mkF m 179 #[.val (.ref o0), .val (.int p1), .val (.int p2), .val (.int i), .val (.int ((own_at cs i) &&& (255 : Int32))), .val (.int (1 : Int32)), .val (.int (128 : Int32)), .val (.int (191 : Int32)), s8, s9, s10] [(.int i), (.ref o0)])) _
                  refine XS.iconst X0.here hx rfl (hb hby d3_179) ?_
                  show Steps p.tables e below (s₁.setTop (mkF m 180 #[.val (.ref o0), .val (.int p1), .val (.int p2), .val (.int i), .val (.int ((own_at cs i) &&& (255 : Int32))), .val (.int (1 : Int32)), .val (.int (128 : Int32)), .val (.int (191 : Int32)), s8, s9, s10] [(.int (1 : Int32)), (.int i), (.ref o0)])) _
                  refine XS.iadd X0.here hx rfl (hb hby d3_180) rfl ?_
                  show Steps p.tables e below (s₁.setTop (mkF m 181 #[.val (.ref o0), .val (.int p1), .val (.int p2), .val (.int i), .val (.int ((own_at cs i) &&& (255 : Int32))), .val (.int (1 : Int32)), .val (.int (128 : Int32)), .val (.int (191 : Int32)), s8, s9, s10] [(.int (i + (1 : Int32))), (.ref o0)])) _
                  refine X0.baloadBytes hx (j := (i + (1 : Int32))) (v := (.int (own_at cs (i + (1 : Int32))))) (by rw [e0]; exact Ar56.1) (State.isArrayOf_alike hZ.alike Ar56.2.1) Ar56.2.2 hin56 (H56.at hin56 (own_getD cs _)) (g := (mkF m 181 #[.val (.ref o0), .val (.int p1), .val (.int p2), .val (.int i), .val (.int ((own_at cs i) &&& (255 : Int32))), .val (.int (1 : Int32)), .val (.int (128 : Int32)), .val (.int (191 : Int32)), s8, s9, s10] [(.int (i + (1 : Int32))), (.ref o0)])) rfl rfl (hb hby d3_181) _ ?_
                  show Steps p.tables e below (s₁.setTop (mkF m 182 #[.val (.ref o0), .val (.int p1), .val (.int p2), .val (.int i), .val (.int ((own_at cs i) &&& (255 : Int32))), .val (.int (1 : Int32)), .val (.int (128 : Int32)), .val (.int (191 : Int32)), s8, s9, s10] [(.int (own_at cs (i + (1 : Int32))))])) _
                  refine XS.sipush X0.here hx rfl (hb hby d3_182) ?_
                  show Steps p.tables e below (s₁.setTop (mkF m 185 #[.val (.ref o0), .val (.int p1), .val (.int p2), .val (.int i), .val (.int ((own_at cs i) &&& (255 : Int32))), .val (.int (1 : Int32)), .val (.int (128 : Int32)), .val (.int (191 : Int32)), s8, s9, s10] [(.int (255 : Int32)), (.int (own_at cs (i + (1 : Int32))))])) _
                  refine XS.iand X0.here hx rfl (hb hby d3_185) rfl ?_
                  show Steps p.tables e below (s₁.setTop (mkF m 186 #[.val (.ref o0), .val (.int p1), .val (.int p2), .val (.int i), .val (.int ((own_at cs i) &&& (255 : Int32))), .val (.int (1 : Int32)), .val (.int (128 : Int32)), .val (.int (191 : Int32)), s8, s9, s10] [(.int ((own_at cs (i + (1 : Int32))) &&& (255 : Int32)))])) _
                  refine XS.istore X0.here hx rfl (hb hby d3_186) rfl (l' := #[.val (.ref o0), .val (.int p1), .val (.int p2), .val (.int i), .val (.int ((own_at cs i) &&& (255 : Int32))), .val (.int (1 : Int32)), .val (.int (128 : Int32)), .val (.int (191 : Int32)), .val (.int ((own_at cs (i + (1 : Int32))) &&& (255 : Int32))), s9, s10]) (XS.store1 rfl hs8 rfl) ?_
                  show Steps p.tables e below (s₁.setTop (mkF m 188 #[.val (.ref o0), .val (.int p1), .val (.int p2), .val (.int i), .val (.int ((own_at cs i) &&& (255 : Int32))), .val (.int (1 : Int32)), .val (.int (128 : Int32)), .val (.int (191 : Int32)), .val (.int ((own_at cs (i + (1 : Int32))) &&& (255 : Int32))), s9, s10] [])) _
                  refine XS.iload X0.here hx rfl (hb hby d3_188) rfl ?_
                  show Steps p.tables e below (s₁.setTop (mkF m 190 #[.val (.ref o0), .val (.int p1), .val (.int p2), .val (.int i), .val (.int ((own_at cs i) &&& (255 : Int32))), .val (.int (1 : Int32)), .val (.int (128 : Int32)), .val (.int (191 : Int32)), .val (.int ((own_at cs (i + (1 : Int32))) &&& (255 : Int32))), s9, s10] [(.int ((own_at cs (i + (1 : Int32))) &&& (255 : Int32)))])) _
                  refine XS.iload X0.here hx rfl (hb hby d3_190) rfl ?_
                  exact k)
                by_cases hc192_58 : ((own_at cs (i + (1 : Int32))) &&& (255 : Int32)) < (128 : Int32)
                · have hrv : r = (0 : Int32) := own_stop hlt (show own_turn cs p2 i = (-1 : Int32) from by simp only [own_turn, if_pos hc14_4, if_neg hc46_6, if_neg hc54_8, if_pos hc172_55, if_pos hc192_58]) hq
                  rw [hrv] at hr
                  refine pre57 _ ?_
                  show Steps p.tables e below (s₁.setTop (mkF m 192 #[.val (.ref o0), .val (.int p1), .val (.int p2), .val (.int i), .val (.int ((own_at cs i) &&& (255 : Int32))), .val (.int (1 : Int32)), .val (.int (128 : Int32)), .val (.int (191 : Int32)), .val (.int ((own_at cs (i + (1 : Int32))) &&& (255 : Int32))), s9, s10] [(.int (128 : Int32)), (.int ((own_at cs (i + (1 : Int32))) &&& (255 : Int32)))])) _
                  refine XS.icmpYes X0.here hx rfl (pc0 := 192) (pc' := 202) rfl (hb hby d3_192) rfl (tlt hc192_58).1 (by decide) (by decide) ?_
                  show Steps p.tables e below (s₁.setTop (mkF m 202 #[.val (.ref o0), .val (.int p1), .val (.int p2), .val (.int i), .val (.int ((own_at cs i) &&& (255 : Int32))), .val (.int (1 : Int32)), .val (.int (128 : Int32)), .val (.int (191 : Int32)), .val (.int ((own_at cs (i + (1 : Int32))) &&& (255 : Int32))), s9, s10] [])) _
                  refine XS.iconst X0.here hx rfl (hb hby d3_202) ?_
                  show Steps p.tables e below (s₁.setTop (mkF m 203 #[.val (.ref o0), .val (.int p1), .val (.int p2), .val (.int i), .val (.int ((own_at cs i) &&& (255 : Int32))), .val (.int (1 : Int32)), .val (.int (128 : Int32)), .val (.int (191 : Int32)), .val (.int ((own_at cs (i + (1 : Int32))) &&& (255 : Int32))), s9, s10] [(.int (0 : Int32))])) _
                  exact retN X0 hx (t := .boolean) Bd.returns (by simp) (hb hby d3_203) hr
                · have pre59 : ∀ t, Steps p.tables e below (s₁.setTop (mkF m 199 #[.val (.ref o0), .val (.int p1), .val (.int p2), .val (.int i), .val (.int ((own_at cs i) &&& (255 : Int32))), .val (.int (1 : Int32)), .val (.int (128 : Int32)), .val (.int (191 : Int32)), .val (.int ((own_at cs (i + (1 : Int32))) &&& (255 : Int32))), s9, s10] [(.int (191 : Int32)), (.int ((own_at cs (i + (1 : Int32))) &&& (255 : Int32)))])) t → Steps p.tables e below (s₁.setTop (mkF m 2 #[.val (.ref o0), .val (.int p1), .val (.int p2), .val (.int i), s4, s5, s6, s7, s8, s9, s10] [])) t := fun t k => pre57 t (by
                    show Steps p.tables e below (s₁.setTop (mkF m 192 #[.val (.ref o0), .val (.int p1), .val (.int p2), .val (.int i), .val (.int ((own_at cs i) &&& (255 : Int32))), .val (.int (1 : Int32)), .val (.int (128 : Int32)), .val (.int (191 : Int32)), .val (.int ((own_at cs (i + (1 : Int32))) &&& (255 : Int32))), s9, s10] [(.int (128 : Int32)), (.int ((own_at cs (i + (1 : Int32))) &&& (255 : Int32)))])) _
                    refine XS.icmpNo X0.here hx rfl (hb hby d3_192) rfl (flt hc192_58).1 ?_
                    show Steps p.tables e below (s₁.setTop (mkF m 195 #[.val (.ref o0), .val (.int p1), .val (.int p2), .val (.int i), .val (.int ((own_at cs i) &&& (255 : Int32))), .val (.int (1 : Int32)), .val (.int (128 : Int32)), .val (.int (191 : Int32)), .val (.int ((own_at cs (i + (1 : Int32))) &&& (255 : Int32))), s9, s10] [])) _
                    refine XS.iload X0.here hx rfl (hb hby d3_195) rfl ?_
                    show Steps p.tables e below (s₁.setTop (mkF m 197 #[.val (.ref o0), .val (.int p1), .val (.int p2), .val (.int i), .val (.int ((own_at cs i) &&& (255 : Int32))), .val (.int (1 : Int32)), .val (.int (128 : Int32)), .val (.int (191 : Int32)), .val (.int ((own_at cs (i + (1 : Int32))) &&& (255 : Int32))), s9, s10] [(.int ((own_at cs (i + (1 : Int32))) &&& (255 : Int32)))])) _
                    refine XS.iload X0.here hx rfl (hb hby d3_197) rfl ?_
                    exact k)
                  by_cases hc199_60 : (191 : Int32) < ((own_at cs (i + (1 : Int32))) &&& (255 : Int32))
                  · have hrv : r = (0 : Int32) := own_stop hlt (show own_turn cs p2 i = (-1 : Int32) from by simp only [own_turn, if_pos hc14_4, if_neg hc46_6, if_neg hc54_8, if_pos hc172_55, if_neg hc192_58, if_pos hc199_60]) hq
                    rw [hrv] at hr
                    refine pre59 _ ?_
                    show Steps p.tables e below (s₁.setTop (mkF m 199 #[.val (.ref o0), .val (.int p1), .val (.int p2), .val (.int i), .val (.int ((own_at cs i) &&& (255 : Int32))), .val (.int (1 : Int32)), .val (.int (128 : Int32)), .val (.int (191 : Int32)), .val (.int ((own_at cs (i + (1 : Int32))) &&& (255 : Int32))), s9, s10] [(.int (191 : Int32)), (.int ((own_at cs (i + (1 : Int32))) &&& (255 : Int32)))])) _
                    refine XS.icmpNo X0.here hx rfl (hb hby d3_199) rfl (tlt hc199_60).2.2.2 ?_
                    show Steps p.tables e below (s₁.setTop (mkF m 202 #[.val (.ref o0), .val (.int p1), .val (.int p2), .val (.int i), .val (.int ((own_at cs i) &&& (255 : Int32))), .val (.int (1 : Int32)), .val (.int (128 : Int32)), .val (.int (191 : Int32)), .val (.int ((own_at cs (i + (1 : Int32))) &&& (255 : Int32))), s9, s10] [])) _
                    refine XS.iconst X0.here hx rfl (hb hby d3_202) ?_
                    show Steps p.tables e below (s₁.setTop (mkF m 203 #[.val (.ref o0), .val (.int p1), .val (.int p2), .val (.int i), .val (.int ((own_at cs i) &&& (255 : Int32))), .val (.int (1 : Int32)), .val (.int (128 : Int32)), .val (.int (191 : Int32)), .val (.int ((own_at cs (i + (1 : Int32))) &&& (255 : Int32))), s9, s10] [(.int (0 : Int32))])) _
                    exact retN X0 hx (t := .boolean) Bd.returns (by simp) (hb hby d3_203) hr
                  · have hbd := own_nbn (n := (1 : Int32)) (m := (2 : Int32)) hi0 hlt hi2 hk hc172_55 (by decide) (by decide) (by decide)
                    have hq2 : r = own_utf cs p2 k (i + (2 : Int32)) := own_go hlt (show own_turn cs p2 i = (i + (2 : Int32)) from by simp only [own_turn, if_pos hc14_4, if_neg hc46_6, if_neg hc54_8, if_pos hc172_55, if_neg hc192_58, if_neg hc199_60]) hbd.1 hq
                    refine pre59 _ ?_
                    show Steps p.tables e below (s₁.setTop (mkF m 199 #[.val (.ref o0), .val (.int p1), .val (.int p2), .val (.int i), .val (.int ((own_at cs i) &&& (255 : Int32))), .val (.int (1 : Int32)), .val (.int (128 : Int32)), .val (.int (191 : Int32)), .val (.int ((own_at cs (i + (1 : Int32))) &&& (255 : Int32))), s9, s10] [(.int (191 : Int32)), (.int ((own_at cs (i + (1 : Int32))) &&& (255 : Int32)))])) _
                    refine XS.icmpYes X0.here hx rfl (pc0 := 199) (pc' := 204) rfl (hb hby d3_199) rfl (flt hc199_60).2.2.2 (by decide) (by decide) ?_
                    show Steps p.tables e below (s₁.setTop (mkF m 204 #[.val (.ref o0), .val (.int p1), .val (.int p2), .val (.int i), .val (.int ((own_at cs i) &&& (255 : Int32))), .val (.int (1 : Int32)), .val (.int (128 : Int32)), .val (.int (191 : Int32)), .val (.int ((own_at cs (i + (1 : Int32))) &&& (255 : Int32))), s9, s10] [])) _
                    refine XS.iconst X0.here hx rfl (hb hby d3_204) ?_
                    show Steps p.tables e below (s₁.setTop (mkF m 205 #[.val (.ref o0), .val (.int p1), .val (.int p2), .val (.int i), .val (.int ((own_at cs i) &&& (255 : Int32))), .val (.int (1 : Int32)), .val (.int (128 : Int32)), .val (.int (191 : Int32)), .val (.int ((own_at cs (i + (1 : Int32))) &&& (255 : Int32))), s9, s10] [(.int (2 : Int32))])) _
                    refine XS.istore X0.here hx rfl (hb hby d3_205) rfl (l' := #[.val (.ref o0), .val (.int p1), .val (.int p2), .val (.int i), .val (.int ((own_at cs i) &&& (255 : Int32))), .val (.int (1 : Int32)), .val (.int (128 : Int32)), .val (.int (191 : Int32)), .val (.int ((own_at cs (i + (1 : Int32))) &&& (255 : Int32))), .val (.int (2 : Int32)), s10]) (XS.store1 rfl hs9 rfl) ?_
                    show Steps p.tables e below (s₁.setTop (mkF m 207 #[.val (.ref o0), .val (.int p1), .val (.int p2), .val (.int i), .val (.int ((own_at cs i) &&& (255 : Int32))), .val (.int (1 : Int32)), .val (.int (128 : Int32)), .val (.int (191 : Int32)), .val (.int ((own_at cs (i + (1 : Int32))) &&& (255 : Int32))), .val (.int (2 : Int32)), s10] [])) _
                    refine XS.iload X0.here hx rfl (hb hby d3_207) rfl ?_
                    show Steps p.tables e below (s₁.setTop (mkF m 209 #[.val (.ref o0), .val (.int p1), .val (.int p2), .val (.int i), .val (.int ((own_at cs i) &&& (255 : Int32))), .val (.int (1 : Int32)), .val (.int (128 : Int32)), .val (.int (191 : Int32)), .val (.int ((own_at cs (i + (1 : Int32))) &&& (255 : Int32))), .val (.int (2 : Int32)), s10] [(.int (2 : Int32))])) _
                    refine XS.iload X0.here hx rfl (hb hby d3_209) rfl ?_
                    show Steps p.tables e below (s₁.setTop (mkF m 211 #[.val (.ref o0), .val (.int p1), .val (.int p2), .val (.int i), .val (.int ((own_at cs i) &&& (255 : Int32))), .val (.int (1 : Int32)), .val (.int (128 : Int32)), .val (.int (191 : Int32)), .val (.int ((own_at cs (i + (1 : Int32))) &&& (255 : Int32))), .val (.int (2 : Int32)), s10] [(.int (1 : Int32)), (.int (2 : Int32))])) _
                    refine XS.icmpYes X0.here hx rfl (pc0 := 211) (pc' := 250) rfl (hb hby d3_211) rfl (tlt ((by decide) : (1 : Int32) < (2 : Int32))).2.2.1 (by decide) (by decide) ?_
                    show Steps p.tables e below (s₁.setTop (mkF m 250 #[.val (.ref o0), .val (.int p1), .val (.int p2), .val (.int i), .val (.int ((own_at cs i) &&& (255 : Int32))), .val (.int (1 : Int32)), .val (.int (128 : Int32)), .val (.int (191 : Int32)), .val (.int ((own_at cs (i + (1 : Int32))) &&& (255 : Int32))), .val (.int (2 : Int32)), s10] [])) _
                    refine XS.iloadN X0.here hx rfl (hb hby d3_250) rfl ?_
                    show Steps p.tables e below (s₁.setTop (mkF m 251 #[.val (.ref o0), .val (.int p1), .val (.int p2), .val (.int i), .val (.int ((own_at cs i) &&& (255 : Int32))), .val (.int (1 : Int32)), .val (.int (128 : Int32)), .val (.int (191 : Int32)), .val (.int ((own_at cs (i + (1 : Int32))) &&& (255 : Int32))), .val (.int (2 : Int32)), s10] [(.int i)])) _
                    refine XS.iload X0.here hx rfl (hb hby d3_251) rfl ?_
                    show Steps p.tables e below (s₁.setTop (mkF m 253 #[.val (.ref o0), .val (.int p1), .val (.int p2), .val (.int i), .val (.int ((own_at cs i) &&& (255 : Int32))), .val (.int (1 : Int32)), .val (.int (128 : Int32)), .val (.int (191 : Int32)), .val (.int ((own_at cs (i + (1 : Int32))) &&& (255 : Int32))), .val (.int (2 : Int32)), s10] [(.int (1 : Int32)), (.int i)])) _
                    refine XS.iconst X0.here hx rfl (hb hby d3_253) ?_
                    show Steps p.tables e below (s₁.setTop (mkF m 254 #[.val (.ref o0), .val (.int p1), .val (.int p2), .val (.int i), .val (.int ((own_at cs i) &&& (255 : Int32))), .val (.int (1 : Int32)), .val (.int (128 : Int32)), .val (.int (191 : Int32)), .val (.int ((own_at cs (i + (1 : Int32))) &&& (255 : Int32))), .val (.int (2 : Int32)), s10] [(.int (1 : Int32)), (.int (1 : Int32)), (.int i)])) _
                    refine XS.iadd X0.here hx rfl (hb hby d3_254) rfl ?_
                    rw [show ((1 : Int32) + (1 : Int32)) = (2 : Int32) from by decide]
                    show Steps p.tables e below (s₁.setTop (mkF m 255 #[.val (.ref o0), .val (.int p1), .val (.int p2), .val (.int i), .val (.int ((own_at cs i) &&& (255 : Int32))), .val (.int (1 : Int32)), .val (.int (128 : Int32)), .val (.int (191 : Int32)), .val (.int ((own_at cs (i + (1 : Int32))) &&& (255 : Int32))), .val (.int (2 : Int32)), s10] [(.int (2 : Int32)), (.int i)])) _
                    refine XS.iadd X0.here hx rfl (hb hby d3_255) rfl ?_
                    show Steps p.tables e below (s₁.setTop (mkF m 256 #[.val (.ref o0), .val (.int p1), .val (.int p2), .val (.int i), .val (.int ((own_at cs i) &&& (255 : Int32))), .val (.int (1 : Int32)), .val (.int (128 : Int32)), .val (.int (191 : Int32)), .val (.int ((own_at cs (i + (1 : Int32))) &&& (255 : Int32))), .val (.int (2 : Int32)), s10] [(.int (i + (2 : Int32)))])) _
                    refine XS.istoreN X0.here hx rfl (hb hby d3_256) rfl (l' := #[.val (.ref o0), .val (.int p1), .val (.int p2), .val (.int (i + (2 : Int32))), .val (.int ((own_at cs i) &&& (255 : Int32))), .val (.int (1 : Int32)), .val (.int (128 : Int32)), .val (.int (191 : Int32)), .val (.int ((own_at cs (i + (1 : Int32))) &&& (255 : Int32))), .val (.int (2 : Int32)), s10]) rfl ?_
                    show Steps p.tables e below (s₁.setTop (mkF m 257 #[.val (.ref o0), .val (.int p1), .val (.int p2), .val (.int (i + (2 : Int32))), .val (.int ((own_at cs i) &&& (255 : Int32))), .val (.int (1 : Int32)), .val (.int (128 : Int32)), .val (.int (191 : Int32)), .val (.int ((own_at cs (i + (1 : Int32))) &&& (255 : Int32))), .val (.int (2 : Int32)), s10] [])) _
                    refine XS.goto X0.here hx rfl (pc0 := 257) (pc' := 2) rfl (hb hby d3_257) (by decide) (by decide) ?_
                    exact ih _ _ _ _ _ _ _ _ (One.val rfl) (One.val rfl) (One.val rfl) (One.val rfl) (One.val rfl) (One.val rfl) hs10 hbd.1 hbd.2.1 hbd.2.2 hq2
              · have hrv : r = (0 : Int32) := own_stop hlt (show own_turn cs p2 i = (-1 : Int32) from by simp only [own_turn, if_pos hc14_4, if_neg hc46_6, if_neg hc54_8, if_neg hc172_55]) hq
                rw [hrv] at hr
                refine pre54 _ ?_
                show Steps p.tables e below (s₁.setTop (mkF m 172 #[.val (.ref o0), .val (.int p1), .val (.int p2), .val (.int i), .val (.int ((own_at cs i) &&& (255 : Int32))), .val (.int (1 : Int32)), .val (.int (128 : Int32)), .val (.int (191 : Int32)), s8, s9, s10] [(.int (1 : Int32)), (.int (p2 - i))])) _
                refine XS.icmpNo X0.here hx rfl (hb hby d3_172) rfl (flt hc172_55).2.2.1 ?_
                show Steps p.tables e below (s₁.setTop (mkF m 175 #[.val (.ref o0), .val (.int p1), .val (.int p2), .val (.int i), .val (.int ((own_at cs i) &&& (255 : Int32))), .val (.int (1 : Int32)), .val (.int (128 : Int32)), .val (.int (191 : Int32)), s8, s9, s10] [])) _
                refine XS.iconst X0.here hx rfl (hb hby d3_175) ?_
                show Steps p.tables e below (s₁.setTop (mkF m 176 #[.val (.ref o0), .val (.int p1), .val (.int p2), .val (.int i), .val (.int ((own_at cs i) &&& (255 : Int32))), .val (.int (1 : Int32)), .val (.int (128 : Int32)), .val (.int (191 : Int32)), s8, s9, s10] [(.int (0 : Int32))])) _
                exact retN X0 hx (t := .boolean) Bd.returns (by simp) (hb hby d3_176) hr
        · have hbd := own_nb1 hi0 hlt hi2 hk
          have hq2 : r = own_utf cs p2 k (i + (1 : Int32)) := own_go hlt (show own_turn cs p2 i = (i + (1 : Int32)) from by simp only [own_turn, if_neg hc14_4]) hbd.1 hq
          refine pre3 _ ?_
          show Steps p.tables e below (s₁.setTop (mkF m 14 #[.val (.ref o0), .val (.int p1), .val (.int p2), .val (.int i), .val (.int (own_at cs i)), s5, s6, s7, s8, s9, s10] [(.int (own_at cs i))])) _
          refine XS.ifNo X0.here hx rfl (hb hby d3_14) rfl ((if0 _ _).trans (flt hc14_4).1) ?_
          show Steps p.tables e below (s₁.setTop (mkF m 17 #[.val (.ref o0), .val (.int p1), .val (.int p2), .val (.int i), .val (.int (own_at cs i)), s5, s6, s7, s8, s9, s10] [])) _
          refine XS.iinc X0.here hx rfl (hb hby d3_17) rfl (l' := #[.val (.ref o0), .val (.int p1), .val (.int p2), .val (.int (i + (1 : Int32))), .val (.int (own_at cs i)), s5, s6, s7, s8, s9, s10]) rfl ?_
          show Steps p.tables e below (s₁.setTop (mkF m 20 #[.val (.ref o0), .val (.int p1), .val (.int p2), .val (.int (i + (1 : Int32))), .val (.int (own_at cs i)), s5, s6, s7, s8, s9, s10] [])) _
          refine XS.goto X0.here hx rfl (pc0 := 20) (pc' := 2) rfl (hb hby d3_20) (by decide) (by decide) ?_
          exact ih _ _ _ _ _ _ _ _ (One.val rfl) hs5 hs6 hs7 hs8 hs9 hs10 hbd.1 hbd.2.1 hbd.2.2 hq2
      · have hrv : r = (1 : Int32) := own_end hlt hq
        rw [hrv] at hr
        refine pZ _ ?_
        show Steps p.tables e below (s₁.setTop (mkF m 2 #[.val (.ref o0), .val (.int p1), .val (.int p2), .val (.int i), s4, s5, s6, s7, s8, s9, s10] [])) _
        refine XS.iloadN X0.here hx rfl (hb hby d3_2) rfl ?_
        show Steps p.tables e below (s₁.setTop (mkF m 3 #[.val (.ref o0), .val (.int p1), .val (.int p2), .val (.int i), s4, s5, s6, s7, s8, s9, s10] [(.int i)])) _
        refine XS.iloadN X0.here hx rfl (hb hby d3_3) rfl ?_
        show Steps p.tables e below (s₁.setTop (mkF m 4 #[.val (.ref o0), .val (.int p1), .val (.int p2), .val (.int i), s4, s5, s6, s7, s8, s9, s10] [(.int p2), (.int i)])) _
        refine XS.icmpYes X0.here hx rfl (pc0 := 4) (pc' := 260) rfl (hb hby d3_4) rfl (flt (hlt : ¬ (i < p2))).2.1 (by decide) (by decide) ?_
        show Steps p.tables e below (s₁.setTop (mkF m 260 #[.val (.ref o0), .val (.int p1), .val (.int p2), .val (.int i), s4, s5, s6, s7, s8, s9, s10] [])) _
        refine XS.iconst X0.here hx rfl (hb hby d3_260) ?_
        show Steps p.tables e below (s₁.setTop (mkF m 261 #[.val (.ref o0), .val (.int p1), .val (.int p2), .val (.int i), s4, s5, s6, s7, s8, s9, s10] [(.int (1 : Int32))])) _
        exact retN X0 hx (t := .boolean) Bd.returns (by simp) (hb hby d3_261) hr
  refine ⟨_, _, pre1 _ (loop 8 p1 _ _ _ _ _ _ _ One.u One.u One.u One.u One.u One.u One.u hi0 hi3 (own_le8 hi0 hi2) hr0), hrun, hended, _, _, rfl, ?_, ⟨_, rfl⟩, hW, hsame.mono (by decide) (by decide)⟩
  show rm3Q Z cs p1 p2 h0 n0 _ s₁.heap _
  rw [e0]
  exact ⟨by rw [hr0], N0, rfl⟩
def own_ok (cs : List Int32) : Prop := ∀ j : Int32, -128 ≤ (own_at cs j).toInt ∧ (own_at cs j).toInt < 128
theorem own_b8 (x : Int32) : -128 ≤ (x.toInt8.toInt32).toInt ∧ (x.toInt8.toInt32).toInt < 128 := (c_i2b x).2
theorem own_okcs {cs : List Int32} {e0 e1 e2 e3 e4 e5 e6 e7 : Int32} (h : cs = [(e0.toInt8.toInt32), (e1.toInt8.toInt32), (e2.toInt8.toInt32), (e3.toInt8.toInt32), (e4.toInt8.toInt32), (e5.toInt8.toInt32), (e6.toInt8.toInt32), (e7.toInt8.toInt32)]) : own_ok cs := by
  intro j
  unfold own_at
  rw [h]
  generalize j.toNatClampNeg = n
  match n with
  | 0 => exact own_b8 e0
  | 1 => exact own_b8 e1
  | 2 => exact own_b8 e2
  | 3 => exact own_b8 e3
  | 4 => exact own_b8 e4
  | 5 => exact own_b8 e5
  | 6 => exact own_b8 e6
  | 7 => exact own_b8 e7
  | n + 8 => exact (show -128 ≤ (0 : Int32).toInt ∧ (0 : Int32).toInt < 128 by decide)
theorem own_u8 {b : Int32} (h : -128 ≤ b.toInt ∧ b.toInt < 128) : 0 ≤ (b &&& (255 : Int32)).toInt ∧ (b &&& (255 : Int32)).toInt < 256 ∧ (b.toInt < 0 ↔ 128 ≤ (b &&& (255 : Int32)).toInt) := by
  have h1 := c_mask b 255 8 (by decide) (by decide)
  rw [h1]
  omega
theorem own_fin (u : Int32) (h : 0 ≤ u.toInt ∧ u.toInt < 256) : ∃ k : Fin 256, u = Int32.ofNat k.val := by
  refine ⟨⟨u.toInt.toNat, by omega⟩, ?_⟩
  apply Int32.toInt_inj.mp
  rw [Int32.toInt_ofNat_of_lt (by show u.toInt.toNat < 2 ^ 31; omega)]
  show u.toInt = (u.toInt.toNat : Int)
  omega
theorem own_masks : ∀ k : Fin 256, (Int32.ofNat k.val &&& (224 : Int32)).toInt = (Int32.ofNat k.val).toInt / 32 * 32 ∧ (Int32.ofNat k.val &&& (240 : Int32)).toInt = (Int32.ofNat k.val).toInt / 16 * 16 ∧ (Int32.ofNat k.val &&& (248 : Int32)).toInt = (Int32.ofNat k.val).toInt / 8 * 8 ∧ (Int32.ofNat k.val &&& (192 : Int32)).toInt = (Int32.ofNat k.val).toInt / 64 * 64 := by decide +kernel
theorem own_mask {u : Int32} (h : 0 ≤ u.toInt ∧ u.toInt < 256) : (u &&& (224 : Int32)).toInt = u.toInt / 32 * 32 ∧ (u &&& (240 : Int32)).toInt = u.toInt / 16 * 16 ∧ (u &&& (248 : Int32)).toInt = u.toInt / 8 * 8 ∧ (u &&& (192 : Int32)).toInt = u.toInt / 64 * 64 := by
  obtain ⟨k, rfl⟩ := own_fin u h
  exact own_masks k
theorem own_cp {x c : Int32} {X : Int} (hX : x.toInt = X) (h0 : 0 ≤ X) (h1 : X < 1048576) : ((x <<< ((6 : Int32) &&& 31)) ||| (c &&& (63 : Int32))).toInt = X * 64 + c.toInt % 64 := by
  have e1 := c_ishl x 6 6 (by decide)
  have e2 := c_mask c 63 6 (by decide) (by decide)
  have r1 := rng32 (x <<< ((6 : Int32) &&& 31))
  have e3 : (x <<< ((6 : Int32) &&& 31)).toInt = X * 64 := by
    rw [hX] at e1
    simp only [Nat.reducePow, Int.cast_ofNat_Int] at e1
    omega
  have e2' : (c &&& (63 : Int32)).toInt = c.toInt % 64 := e2
  have e4 := c_or (x <<< ((6 : Int32) &&& 31)) (c &&& (63 : Int32)) 6 (by decide) 64 rfl (by rw [e3]; omega) (by rw [e2']; omega) (by rw [e2']; omega)
  have r2 := rng32 ((x <<< ((6 : Int32) &&& 31)) ||| (c &&& (63 : Int32)))
  rw [e3, e2'] at e4
  omega
theorem own_m31 (u : Int32) : (u &&& (31 : Int32)).toInt = u.toInt % 32 := c_mask u 31 5 (by decide) (by decide)
theorem own_m15 (u : Int32) : (u &&& (15 : Int32)).toInt = u.toInt % 16 := c_mask u 15 4 (by decide) (by decide)
theorem own_m7 (u : Int32) : (u &&& (7 : Int32)).toInt = u.toInt % 8 := c_mask u 7 3 (by decide) (by decide)
theorem own_lits : (0 : Int32).toInt = 0 ∧ (-1 : Int32).toInt = -1 ∧ (1 : Int32).toInt = 1 ∧ (2 : Int32).toInt = 2 ∧ (3 : Int32).toInt = 3 ∧ (8 : Int32).toInt = 8 ∧ (128 : Int32).toInt = 128 ∧ (143 : Int32).toInt = 143 ∧ (144 : Int32).toInt = 144 ∧ (159 : Int32).toInt = 159 ∧ (160 : Int32).toInt = 160 ∧ (191 : Int32).toInt = 191 ∧ (192 : Int32).toInt = 192 ∧ (194 : Int32).toInt = 194 ∧ (223 : Int32).toInt = 223 ∧ (224 : Int32).toInt = 224 ∧ (237 : Int32).toInt = 237 ∧ (239 : Int32).toInt = 239 ∧ (240 : Int32).toInt = 240 ∧ (244 : Int32).toInt = 244 ∧ (2048 : Int32).toInt = 2048 ∧ (65536 : Int32).toInt = 65536 ∧ (1114111 : Int32).toInt = 1114111 ∧ (55296 : Int32).toInt = 55296 ∧ (57343 : Int32).toInt = 57343 := by decide
set_option maxHeartbeats 4000000 in
theorem own_int {A0 U V W X I T J : Int} (a1 : 0 ≤ U) (a2 : U < 256) (a3 : A0 < 0 ↔ 128 ≤ U) (b1 : 0 ≤ V) (b2 : V < 256) (c1 : 0 ≤ W) (c2 : W < 256) (d1 : 0 ≤ X) (d2 : X < 256) : (if A0 < 0 then
      if U < 194 then -1
      else
        if 223 < U then
          if 239 < U then
            if 244 < U then -1
            else
              if 3 < T - I then
                if V < (if U = 240 then 144 else if U = 244 then 128 else 128) then -1
                else
                  if (if U = 240 then 191 else if U = 244 then 143 else 191) < V then -1
                  else
                    if W < 128 then -1
                    else if 191 < W then -1 else if X < 128 then -1 else if 191 < X then -1 else J
              else -1
          else
            if 2 < T - I then
              if V < (if U = 224 then 160 else if U = 237 then 128 else 128) then -1
              else
                if (if U = 224 then 191 else if U = 237 then 159 else 191) < V then -1
                else if W < 128 then -1 else if 191 < W then -1 else I + 3
            else -1
        else if 1 < T - I then if V < 128 then -1 else if 191 < V then -1 else I + 2 else -1
    else I + 1) = (if U < 128 then I + 1
    else
      if U / 32 * 32 = 192 then
        if I + 1 < T then
          if V / 64 * 64 = 128 then
            if U % 32 * 64 + V % 64 < 128 then -1
            else
              if 1114111 < U % 32 * 64 + V % 64 then -1
              else
                if U % 32 * 64 + V % 64 < 55296 then I + 2
                else if 57343 < U % 32 * 64 + V % 64 then I + 2 else -1
          else -1
        else -1
      else
        if U / 16 * 16 = 224 then
          if I + 2 < T then
            if V / 64 * 64 = 128 then
              if W / 64 * 64 = 128 then
                if (U % 16 * 64 + V % 64) * 64 + W % 64 < 2048 then -1
                else
                  if 1114111 < (U % 16 * 64 + V % 64) * 64 + W % 64 then -1
                  else
                    if (U % 16 * 64 + V % 64) * 64 + W % 64 < 55296 then I + 3
                    else if 57343 < (U % 16 * 64 + V % 64) * 64 + W % 64 then I + 3 else -1
              else -1
            else -1
          else -1
        else
          if U / 8 * 8 = 240 then
            if I + 3 < T then
              if V / 64 * 64 = 128 then
                if W / 64 * 64 = 128 then
                  if X / 64 * 64 = 128 then
                    if ((U % 8 * 64 + V % 64) * 64 + W % 64) * 64 + X % 64 < 65536 then -1
                    else
                      if 1114111 < ((U % 8 * 64 + V % 64) * 64 + W % 64) * 64 + X % 64 then -1
                      else
                        if ((U % 8 * 64 + V % 64) * 64 + W % 64) * 64 + X % 64 < 55296 then J
                        else if 57343 < ((U % 8 * 64 + V % 64) * 64 + W % 64) * 64 + X % 64 then J else -1
                  else -1
                else -1
              else -1
            else -1
          else -1) := by
  rcases (by omega : U < 128 ∨ (128 ≤ U ∧ U < 192) ∨ (192 ≤ U ∧ U < 194) ∨ (194 ≤ U ∧ U < 224) ∨ (U = 224 ∨ U = 237 ∨ (225 ≤ U ∧ U < 237) ∨ (238 ≤ U ∧ U < 240)) ∨ (U = 240 ∨ U = 244 ∨ (241 ≤ U ∧ U < 244)) ∨ (245 ≤ U ∧ U < 248) ∨ 248 ≤ U) with hu | hu | hu | hu | (hu | hu | hu | hu) | (hu | hu | hu) | hu | hu
  · repeat (first | rw [if_pos (by omega)] | rw [if_neg (by omega)])
  · repeat (first | rw [if_pos (by omega)] | rw [if_neg (by omega)])
  · by_cases hg : I + 1 < T
    · (rcases (by omega : V < 128 ∨ (128 ≤ V ∧ V < 192) ∨ 192 ≤ V) with hv | hv | hv) <;> (repeat (first | rw [if_pos (by omega)] | rw [if_neg (by omega)]))
    · repeat (first | rw [if_pos (by omega)] | rw [if_neg (by omega)])
  · by_cases hg : I + 1 < T
    · (rcases (by omega : V < 128 ∨ (128 ≤ V ∧ V < 192) ∨ 192 ≤ V) with hv | hv | hv) <;> (repeat (first | rw [if_pos (by omega)] | rw [if_neg (by omega)]))
    · repeat (first | rw [if_pos (by omega)] | rw [if_neg (by omega)])
  · by_cases hg : I + 2 < T
    · (rcases (by omega : V < 128 ∨ (128 ≤ V ∧ V < 144) ∨ (144 ≤ V ∧ V < 160) ∨ (160 ≤ V ∧ V < 192) ∨ 192 ≤ V) with hv | hv | hv | hv | hv) <;> (rcases (by omega : W < 128 ∨ (128 ≤ W ∧ W < 192) ∨ 192 ≤ W) with hw | hw | hw) <;> (repeat (first | rw [if_pos (by omega)] | rw [if_neg (by omega)]))
    · repeat (first | rw [if_pos (by omega)] | rw [if_neg (by omega)])
  · by_cases hg : I + 2 < T
    · (rcases (by omega : V < 128 ∨ (128 ≤ V ∧ V < 144) ∨ (144 ≤ V ∧ V < 160) ∨ (160 ≤ V ∧ V < 192) ∨ 192 ≤ V) with hv | hv | hv | hv | hv) <;> (rcases (by omega : W < 128 ∨ (128 ≤ W ∧ W < 192) ∨ 192 ≤ W) with hw | hw | hw) <;> (repeat (first | rw [if_pos (by omega)] | rw [if_neg (by omega)]))
    · repeat (first | rw [if_pos (by omega)] | rw [if_neg (by omega)])
  · by_cases hg : I + 2 < T
    · (rcases (by omega : V < 128 ∨ (128 ≤ V ∧ V < 144) ∨ (144 ≤ V ∧ V < 160) ∨ (160 ≤ V ∧ V < 192) ∨ 192 ≤ V) with hv | hv | hv | hv | hv) <;> (rcases (by omega : W < 128 ∨ (128 ≤ W ∧ W < 192) ∨ 192 ≤ W) with hw | hw | hw) <;> (repeat (first | rw [if_pos (by omega)] | rw [if_neg (by omega)]))
    · repeat (first | rw [if_pos (by omega)] | rw [if_neg (by omega)])
  · by_cases hg : I + 2 < T
    · (rcases (by omega : V < 128 ∨ (128 ≤ V ∧ V < 144) ∨ (144 ≤ V ∧ V < 160) ∨ (160 ≤ V ∧ V < 192) ∨ 192 ≤ V) with hv | hv | hv | hv | hv) <;> (rcases (by omega : W < 128 ∨ (128 ≤ W ∧ W < 192) ∨ 192 ≤ W) with hw | hw | hw) <;> (repeat (first | rw [if_pos (by omega)] | rw [if_neg (by omega)]))
    · repeat (first | rw [if_pos (by omega)] | rw [if_neg (by omega)])
  · by_cases hg : I + 3 < T
    · (rcases (by omega : V < 128 ∨ (128 ≤ V ∧ V < 144) ∨ (144 ≤ V ∧ V < 160) ∨ (160 ≤ V ∧ V < 192) ∨ 192 ≤ V) with hv | hv | hv | hv | hv) <;> (rcases (by omega : W < 128 ∨ (128 ≤ W ∧ W < 192) ∨ 192 ≤ W) with hw | hw | hw) <;> (rcases (by omega : X < 128 ∨ (128 ≤ X ∧ X < 192) ∨ 192 ≤ X) with hx | hx | hx) <;> (repeat (first | rw [if_pos (by omega)] | rw [if_neg (by omega)]))
    · repeat (first | rw [if_pos (by omega)] | rw [if_neg (by omega)])
  · by_cases hg : I + 3 < T
    · (rcases (by omega : V < 128 ∨ (128 ≤ V ∧ V < 144) ∨ (144 ≤ V ∧ V < 160) ∨ (160 ≤ V ∧ V < 192) ∨ 192 ≤ V) with hv | hv | hv | hv | hv) <;> (rcases (by omega : W < 128 ∨ (128 ≤ W ∧ W < 192) ∨ 192 ≤ W) with hw | hw | hw) <;> (rcases (by omega : X < 128 ∨ (128 ≤ X ∧ X < 192) ∨ 192 ≤ X) with hx | hx | hx) <;> (repeat (first | rw [if_pos (by omega)] | rw [if_neg (by omega)]))
    · repeat (first | rw [if_pos (by omega)] | rw [if_neg (by omega)])
  · by_cases hg : I + 3 < T
    · (rcases (by omega : V < 128 ∨ (128 ≤ V ∧ V < 144) ∨ (144 ≤ V ∧ V < 160) ∨ (160 ≤ V ∧ V < 192) ∨ 192 ≤ V) with hv | hv | hv | hv | hv) <;> (rcases (by omega : W < 128 ∨ (128 ≤ W ∧ W < 192) ∨ 192 ≤ W) with hw | hw | hw) <;> (rcases (by omega : X < 128 ∨ (128 ≤ X ∧ X < 192) ∨ 192 ≤ X) with hx | hx | hx) <;> (repeat (first | rw [if_pos (by omega)] | rw [if_neg (by omega)]))
    · repeat (first | rw [if_pos (by omega)] | rw [if_neg (by omega)])
  · by_cases hg : I + 3 < T
    · (rcases (by omega : V < 128 ∨ (128 ≤ V ∧ V < 192) ∨ 192 ≤ V) with hv | hv | hv) <;> (rcases (by omega : W < 128 ∨ (128 ≤ W ∧ W < 192) ∨ 192 ≤ W) with hw | hw | hw) <;> (rcases (by omega : X < 128 ∨ (128 ≤ X ∧ X < 192) ∨ 192 ≤ X) with hx | hx | hx) <;> (repeat (first | rw [if_pos (by omega)] | rw [if_neg (by omega)]))
    · repeat (first | rw [if_pos (by omega)] | rw [if_neg (by omega)])
  · repeat (first | rw [if_pos (by omega)] | rw [if_neg (by omega)])
theorem own_eq {cs : List Int32} {i to : Int32} (hok : own_ok cs) (h0 : ¬ i < (0 : Int32)) (h1 : i < to) (h2 : ¬ (8 : Int32) < to) : own_turn cs to i = own_f5 cs i to := by
  obtain ⟨l0, lm1, l1, l2, l3, l8, l128, l143, l144, l159, l160, l191, l192, l194, l223, l224, l237, l239, l240, l244, l2048, l65536, l1114111, l55296, l57343⟩ := own_lits
  obtain ⟨a1, a2, a3⟩ := own_u8 (hok i)
  obtain ⟨b1, b2, -⟩ := own_u8 (hok (i + 1))
  obtain ⟨c1, c2, -⟩ := own_u8 (hok (i + 2))
  obtain ⟨d1, d2, -⟩ := own_u8 (hok (i + 3))
  have i1 : (i + (1 : Int32)) + (1 : Int32) = i + 2 := by rw [Int32.add_assoc]; rfl
  have i2 : (i + (2 : Int32)) + (1 : Int32) = i + 3 := by rw [Int32.add_assoc]; rfl
  have i3 : (i + (3 : Int32)) + (1 : Int32) = i + 4 := by rw [Int32.add_assoc]; rfl
  have g1 : (i + (1 : Int32)).toInt = i.toInt + 1 := by
    have e := c_iadd i 1; have r := rng32 (i + 1)
    simp only [Int32.lt_iff_toInt_lt, l0, l8, l1] at *; omega
  have g2 : (i + (2 : Int32)).toInt = i.toInt + 2 := by
    have e := c_iadd i 2; have r := rng32 (i + 2)
    simp only [Int32.lt_iff_toInt_lt, l0, l8, l2] at *; omega
  have g3 : (i + (3 : Int32)).toInt = i.toInt + 3 := by
    have e := c_iadd i 3; have r := rng32 (i + 3)
    simp only [Int32.lt_iff_toInt_lt, l0, l8, l3] at *; omega
  have g4 : (to - i).toInt = to.toInt - i.toInt := by
    have e := c_isub to i; have r := rng32 (to - i)
    simp only [Int32.lt_iff_toInt_lt, l0, l8] at *; omega
  have hU : 0 ≤ (own_at cs i &&& (255 : Int32)).toInt % 32 ∧ (own_at cs i &&& (255 : Int32)).toInt % 32 < 32 := by omega
  have p1 := own_cp (c := own_at cs (i + 1) &&& (255 : Int32)) (own_m31 (own_at cs i &&& (255 : Int32))) (by omega) (by omega)
  have q1 := own_cp (c := own_at cs (i + 1) &&& (255 : Int32)) (own_m15 (own_at cs i &&& (255 : Int32))) (by omega) (by omega)
  have q2 := own_cp (c := own_at cs (i + 2) &&& (255 : Int32)) q1 (by omega) (by omega)
  have s1 := own_cp (c := own_at cs (i + 1) &&& (255 : Int32)) (own_m7 (own_at cs i &&& (255 : Int32))) (by omega) (by omega)
  have s2 := own_cp (c := own_at cs (i + 2) &&& (255 : Int32)) s1 (by omega) (by omega)
  have s3 := own_cp (c := own_at cs (i + 3) &&& (255 : Int32)) s2 (by omega) (by omega)
  obtain ⟨m1, m2, m3, -⟩ := own_mask (u := own_at cs i &&& (255 : Int32)) ⟨a1, a2⟩
  obtain ⟨-, -, -, m4⟩ := own_mask (u := own_at cs (i + 1) &&& (255 : Int32)) ⟨b1, b2⟩
  obtain ⟨-, -, -, m5⟩ := own_mask (u := own_at cs (i + 2) &&& (255 : Int32)) ⟨c1, c2⟩
  obtain ⟨-, -, -, m6⟩ := own_mask (u := own_at cs (i + 3) &&& (255 : Int32)) ⟨d1, d2⟩
  unfold own_turn own_f5 own_lo2 own_hi2 own_lo3 own_hi3
  simp only [i1, i2, i3]
  simp only [Int32.lt_iff_toInt_lt, ← Int32.toInt_inj, apply_ite Int32.toInt] at *
  simp only [g1, g2, g3, g4, p1, q2, s3, m1, m2, m3, m4, m5, m6, l0, lm1, l1, l2, l3, l8, l128, l143, l144, l159, l160, l191, l192, l194, l223, l224, l237, l239, l240, l244, l2048, l65536, l1114111, l55296, l57343] at *
  clear p1 q1 q2 s1 s2 s3 m1 m2 m3 m4 m5 m6 g1 g2 g3 g4 i1 i2 i3
  generalize (own_at cs i).toInt = A0 at *
  generalize (own_at cs i &&& (255 : Int32)).toInt = U at *
  generalize (own_at cs (i + 1) &&& (255 : Int32)).toInt = V at *
  generalize (own_at cs (i + 2) &&& (255 : Int32)).toInt = W at *
  generalize (own_at cs (i + 3) &&& (255 : Int32)).toInt = X at *
  generalize (i + 4).toInt = J at *
  exact own_int a1 a2 a3 b1 b2 c1 c2 d1 d2
section OwnChain
variable {cs : List Int32} {to i : Int32}
theorem own_turnk {cs : List Int32} {p2 i : Int32} (t : Int32) (ht : own_turn cs p2 i = t) : t = (-1 : Int32) ∨ t = i + (1 : Int32) ∨ ((1 : Int32) < (p2 - i) ∧ t = i + (2 : Int32)) ∨ ((2 : Int32) < (p2 - i) ∧ t = i + (3 : Int32)) ∨ ((3 : Int32) < (p2 - i) ∧ t = i + (4 : Int32)) := by
  by_cases h1 : (own_at cs i) < (0 : Int32)
  · by_cases h2 : ((own_at cs i) &&& (255 : Int32)) < (194 : Int32)
    · rw [show own_turn cs p2 i = (-1 : Int32) from by simp only [own_turn, if_pos h1, if_pos h2]] at ht
      subst ht
      exact Or.inl rfl
    · by_cases h6 : (223 : Int32) < ((own_at cs i) &&& (255 : Int32))
      · by_cases h7 : (239 : Int32) < ((own_at cs i) &&& (255 : Int32))
        · by_cases h8 : (244 : Int32) < ((own_at cs i) &&& (255 : Int32))
          · rw [show own_turn cs p2 i = (-1 : Int32) from by simp only [own_turn, if_pos h1, if_neg h2, if_pos h6, if_pos h7, if_pos h8]] at ht
            subst ht
            exact Or.inl rfl
          · by_cases h12 : (3 : Int32) < (p2 - i)
            · by_cases h13 : ((own_at cs (i + (1 : Int32))) &&& (255 : Int32)) < (own_lo3 cs p2 i)
              · rw [show own_turn cs p2 i = (-1 : Int32) from by simp only [own_turn, if_pos h1, if_neg h2, if_pos h6, if_pos h7, if_neg h8, if_pos h12, if_pos h13]] at ht
                subst ht
                exact Or.inl rfl
              · by_cases h17 : (own_hi3 cs p2 i) < ((own_at cs (i + (1 : Int32))) &&& (255 : Int32))
                · rw [show own_turn cs p2 i = (-1 : Int32) from by simp only [own_turn, if_pos h1, if_neg h2, if_pos h6, if_pos h7, if_neg h8, if_pos h12, if_neg h13, if_pos h17]] at ht
                  subst ht
                  exact Or.inl rfl
                · by_cases h21 : ((own_at cs (i + (2 : Int32))) &&& (255 : Int32)) < (128 : Int32)
                  · rw [show own_turn cs p2 i = (-1 : Int32) from by simp only [own_turn, if_pos h1, if_neg h2, if_pos h6, if_pos h7, if_neg h8, if_pos h12, if_neg h13, if_neg h17, if_pos h21]] at ht
                    subst ht
                    exact Or.inl rfl
                  · by_cases h25 : (191 : Int32) < ((own_at cs (i + (2 : Int32))) &&& (255 : Int32))
                    · rw [show own_turn cs p2 i = (-1 : Int32) from by simp only [own_turn, if_pos h1, if_neg h2, if_pos h6, if_pos h7, if_neg h8, if_pos h12, if_neg h13, if_neg h17, if_neg h21, if_pos h25]] at ht
                      subst ht
                      exact Or.inl rfl
                    · by_cases h29 : ((own_at cs (i + (3 : Int32))) &&& (255 : Int32)) < (128 : Int32)
                      · rw [show own_turn cs p2 i = (-1 : Int32) from by simp only [own_turn, if_pos h1, if_neg h2, if_pos h6, if_pos h7, if_neg h8, if_pos h12, if_neg h13, if_neg h17, if_neg h21, if_neg h25, if_pos h29]] at ht
                        subst ht
                        exact Or.inl rfl
                      · by_cases h33 : (191 : Int32) < ((own_at cs (i + (3 : Int32))) &&& (255 : Int32))
                        · rw [show own_turn cs p2 i = (-1 : Int32) from by simp only [own_turn, if_pos h1, if_neg h2, if_pos h6, if_pos h7, if_neg h8, if_pos h12, if_neg h13, if_neg h17, if_neg h21, if_neg h25, if_neg h29, if_pos h33]] at ht
                          subst ht
                          exact Or.inl rfl
                        · rw [show own_turn cs p2 i = (i + (4 : Int32)) from by simp only [own_turn, if_pos h1, if_neg h2, if_pos h6, if_pos h7, if_neg h8, if_pos h12, if_neg h13, if_neg h17, if_neg h21, if_neg h25, if_neg h29, if_neg h33]] at ht
                          subst ht
                          exact Or.inr (Or.inr (Or.inr (Or.inr ⟨h12, rfl⟩)))
            · rw [show own_turn cs p2 i = (-1 : Int32) from by simp only [own_turn, if_pos h1, if_neg h2, if_pos h6, if_pos h7, if_neg h8, if_neg h12]] at ht
              subst ht
              exact Or.inl rfl
        · by_cases h43 : (2 : Int32) < (p2 - i)
          · by_cases h44 : ((own_at cs (i + (1 : Int32))) &&& (255 : Int32)) < (own_lo2 cs p2 i)
            · rw [show own_turn cs p2 i = (-1 : Int32) from by simp only [own_turn, if_pos h1, if_neg h2, if_pos h6, if_neg h7, if_pos h43, if_pos h44]] at ht
              subst ht
              exact Or.inl rfl
            · by_cases h48 : (own_hi2 cs p2 i) < ((own_at cs (i + (1 : Int32))) &&& (255 : Int32))
              · rw [show own_turn cs p2 i = (-1 : Int32) from by simp only [own_turn, if_pos h1, if_neg h2, if_pos h6, if_neg h7, if_pos h43, if_neg h44, if_pos h48]] at ht
                subst ht
                exact Or.inl rfl
              · by_cases h52 : ((own_at cs (i + (2 : Int32))) &&& (255 : Int32)) < (128 : Int32)
                · rw [show own_turn cs p2 i = (-1 : Int32) from by simp only [own_turn, if_pos h1, if_neg h2, if_pos h6, if_neg h7, if_pos h43, if_neg h44, if_neg h48, if_pos h52]] at ht
                  subst ht
                  exact Or.inl rfl
                · by_cases h56 : (191 : Int32) < ((own_at cs (i + (2 : Int32))) &&& (255 : Int32))
                  · rw [show own_turn cs p2 i = (-1 : Int32) from by simp only [own_turn, if_pos h1, if_neg h2, if_pos h6, if_neg h7, if_pos h43, if_neg h44, if_neg h48, if_neg h52, if_pos h56]] at ht
                    subst ht
                    exact Or.inl rfl
                  · rw [show own_turn cs p2 i = (i + (3 : Int32)) from by simp only [own_turn, if_pos h1, if_neg h2, if_pos h6, if_neg h7, if_pos h43, if_neg h44, if_neg h48, if_neg h52, if_neg h56]] at ht
                    subst ht
                    exact Or.inr (Or.inr (Or.inr (Or.inl ⟨h43, rfl⟩)))
          · rw [show own_turn cs p2 i = (-1 : Int32) from by simp only [own_turn, if_pos h1, if_neg h2, if_pos h6, if_neg h7, if_neg h43]] at ht
            subst ht
            exact Or.inl rfl
      · by_cases h66 : (1 : Int32) < (p2 - i)
        · by_cases h67 : ((own_at cs (i + (1 : Int32))) &&& (255 : Int32)) < (128 : Int32)
          · rw [show own_turn cs p2 i = (-1 : Int32) from by simp only [own_turn, if_pos h1, if_neg h2, if_neg h6, if_pos h66, if_pos h67]] at ht
            subst ht
            exact Or.inl rfl
          · by_cases h71 : (191 : Int32) < ((own_at cs (i + (1 : Int32))) &&& (255 : Int32))
            · rw [show own_turn cs p2 i = (-1 : Int32) from by simp only [own_turn, if_pos h1, if_neg h2, if_neg h6, if_pos h66, if_neg h67, if_pos h71]] at ht
              subst ht
              exact Or.inl rfl
            · rw [show own_turn cs p2 i = (i + (2 : Int32)) from by simp only [own_turn, if_pos h1, if_neg h2, if_neg h6, if_pos h66, if_neg h67, if_neg h71]] at ht
              subst ht
              exact Or.inr (Or.inr (Or.inl ⟨h66, rfl⟩))
        · rw [show own_turn cs p2 i = (-1 : Int32) from by simp only [own_turn, if_pos h1, if_neg h2, if_neg h6, if_neg h66]] at ht
          subst ht
          exact Or.inl rfl
  · rw [show own_turn cs p2 i = (i + (1 : Int32)) from by simp only [own_turn, if_neg h1]] at ht
    subst ht
    exact Or.inr (Or.inl rfl)
theorem own_turnb {k : Nat} (h0 : ¬ i < (0 : Int32)) (h1 : i < to) (h2 : ¬ (8 : Int32) < to) (hk : to.toInt - i.toInt ≤ (k + 1 : Nat)) : own_turn cs to i = (-1 : Int32) ∨ (¬ own_turn cs to i < (0 : Int32) ∧ ¬ to < own_turn cs to i ∧ to.toInt - (own_turn cs to i).toInt ≤ k) := by
  obtain ⟨t, ht⟩ : ∃ t, own_turn cs to i = t := ⟨_, rfl⟩
  rw [ht]
  rcases own_turnk t ht with q | q | ⟨g, q⟩ | ⟨g, q⟩ | ⟨g, q⟩
  · exact Or.inl q
  · rw [q]; exact Or.inr (own_nb1 h0 h1 h2 hk)
  · rw [q]; exact Or.inr (own_nbn (n := (1 : Int32)) h0 h1 h2 hk g (by decide) (by decide) (by decide))
  · rw [q]; exact Or.inr (own_nbn (n := (2 : Int32)) h0 h1 h2 hk g (by decide) (by decide) (by decide))
  · rw [q]; exact Or.inr (own_nbn (n := (3 : Int32)) h0 h1 h2 hk g (by decide) (by decide) (by decide))
def own_it (cs : List Int32) (to : Int32) : Nat → Int32 → Int32
  | 0, i => i
  | k + 1, i => own_it cs to k (own_f4 cs i to)
theorem own_itneg : ∀ k : Nat, own_it cs to k (-1 : Int32) = (-1 : Int32)
  | 0 => rfl
  | k + 1 => by rw [own_it, own_f4, if_pos (by decide)]; exact own_itneg k
theorem own_itto (h : ¬ to < (0 : Int32)) : ∀ k : Nat, own_it cs to k to = to
  | 0 => rfl
  | k + 1 => by rw [own_it, own_f4, if_neg h, if_neg (by rw [Int32.lt_iff_toInt_lt]; omega)]; exact own_itto h k
theorem own_chain (hok : own_ok cs) (h2 : ¬ (8 : Int32) < to) : ∀ (k : Nat) (i : Int32), ¬ i < (0 : Int32) → ¬ to < i → to.toInt - i.toInt ≤ k → (own_utf cs to k i = (1 : Int32) ∧ own_it cs to k i = to) ∨ (own_utf cs to k i = (0 : Int32) ∧ own_it cs to k i = (-1 : Int32)) := by
  intro k
  induction k with
  | zero =>
    intro i h0 h3 hk
    refine Or.inl ⟨rfl, ?_⟩
    show i = to
    apply Int32.toInt_inj.mp
    rw [Int32.lt_iff_toInt_lt] at h3
    omega
  | succ k ih =>
    intro i h0 h3 hk
    by_cases h1 : i < to
    · have hf : own_f4 cs i to = own_turn cs to i := by rw [own_f4, if_neg h0, if_pos h1, own_eq hok h0 h1 h2]
      rw [own_utf, if_pos h1, own_it, hf]
      rcases own_turnb (cs := cs) h0 h1 h2 hk with q | ⟨q1, q2, q3⟩
      · rw [if_pos q, q, own_itneg]
        exact Or.inr ⟨rfl, rfl⟩
      · rw [if_neg (fun q => q1 (by rw [q]; decide))]
        exact ih _ q1 q2 q3
    · have hi : i = to := by
        apply Int32.toInt_inj.mp
        rw [Int32.lt_iff_toInt_lt] at h3 h1
        omega
      rw [own_utf, if_neg h1, hi]
      refine Or.inl ⟨rfl, own_itto (by rw [← hi]; exact h0) _⟩
end OwnChain
theorem own_irem_mod (x y : Int32) : own_irem x y = x % y := by
  apply Int32.toInt_inj.mp
  have h1 := Int32.le_toInt (x % y)
  have h2 := Int32.toInt_lt (x % y)
  rw [own_irem, Int32.toInt_sub, Int32.toInt_mul, Int32.toInt_div, Int.bmod_mul_bmod, Int.sub_bmod_bmod, Int.mul_comm (x.toInt.tdiv y.toInt), ← Int.tmod_def, ← Int32.toInt_mod]
  exact Int.bmod_eq_of_le_mul_two (by omega) (by omega)
section OwnLaw
variable {p q uu vv ff tt gg i1 i2 i3 i4 i5 i6 i7 i8 : Int32} {cs : List Int32}
theorem own_r9 (h : uu = (own_irem (p &&& (2147483647 : Int32)) (9 : Int32))) : 0 ≤ uu.toInt ∧ uu.toInt ≤ 8 := by
  have h1 := c_mask p 2147483647 31 (by decide) (by decide)
  have h2 := c_irem (p &&& (2147483647 : Int32)) 9 9 (by decide)
  rw [h, own_irem_mod, h2.1 (by rw [h1]; omega)]
  omega
theorem own_ff0 (hff : ff = own_f1 uu vv) (huu : uu = (own_irem (p &&& (2147483647 : Int32)) (9 : Int32))) (hvv : vv = (own_irem (q &&& (2147483647 : Int32)) (9 : Int32))) : ¬ ff < (0 : Int32) := by
  have h1 := own_r9 huu
  have h2 := own_r9 hvv
  rw [Int32.lt_iff_toInt_lt, show (0 : Int32).toInt = 0 by decide, hff, own_f1]
  split <;> omega
theorem own_ft (hff : ff = own_f1 uu vv) (htt : tt = own_f2 uu vv) : ¬ tt < ff := by
  rw [hff, htt, own_f1, own_f2]
  rw [Int32.lt_iff_toInt_lt]
  split <;> split <;> rename_i a b <;> rw [Int32.lt_iff_toInt_lt] at a b <;> omega
theorem own_t8 (htt : tt = own_f2 uu vv) (huu : uu = (own_irem (p &&& (2147483647 : Int32)) (9 : Int32))) (hvv : vv = (own_irem (q &&& (2147483647 : Int32)) (9 : Int32))) : ¬ (8 : Int32) < tt := by
  have h1 := own_r9 huu
  have h2 := own_r9 hvv
  rw [Int32.lt_iff_toInt_lt, show (8 : Int32).toInt = 8 by decide, htt, own_f2]
  split <;> omega
theorem own_both (hok : own_ok cs) (hff : ff = own_f1 uu vv) (htt : tt = own_f2 uu vv) (huu : uu = (own_irem (p &&& (2147483647 : Int32)) (9 : Int32))) (hvv : vv = (own_irem (q &&& (2147483647 : Int32)) (9 : Int32))) (hgg : gg = own_utf cs tt 8 ff) (hi1 : i1 = own_f4 cs ff tt) (hi2 : i2 = own_f4 cs i1 tt) (hi3 : i3 = own_f4 cs i2 tt) (hi4 : i4 = own_f4 cs i3 tt) (hi5 : i5 = own_f4 cs i4 tt) (hi6 : i6 = own_f4 cs i5 tt) (hi7 : i7 = own_f4 cs i6 tt) (hi8 : i8 = own_f4 cs i7 tt) : (gg = (1 : Int32) ∧ i8 = tt) ∨ (gg = (0 : Int32) ∧ ¬ i8 = tt) := by
  have e : i8 = own_it cs tt 8 ff := by rw [hi8, hi7, hi6, hi5, hi4, hi3, hi2, hi1]; rfl
  have h0 := own_ff0 hff huu hvv
  have h3 := own_ft hff htt
  have h8 := own_t8 htt huu hvv
  rw [e, hgg]
  rcases own_chain hok h8 8 ff h0 h3 (own_le8 h0 h8) with h | h
  · exact Or.inl h
  · refine Or.inr ⟨h.1, ?_⟩
    rw [h.2]
    intro z
    rw [Int32.lt_iff_toInt_lt] at h0 h3
    rw [← z, show (-1 : Int32).toInt = -1 by decide] at h3
    rw [show (0 : Int32).toInt = 0 by decide] at h0
    omega
theorem own_yes (hok : own_ok cs) (hff : ff = own_f1 uu vv) (htt : tt = own_f2 uu vv) (huu : uu = (own_irem (p &&& (2147483647 : Int32)) (9 : Int32))) (hvv : vv = (own_irem (q &&& (2147483647 : Int32)) (9 : Int32))) (hgg : gg = own_utf cs tt 8 ff) (hi1 : i1 = own_f4 cs ff tt) (hi2 : i2 = own_f4 cs i1 tt) (hi3 : i3 = own_f4 cs i2 tt) (hi4 : i4 = own_f4 cs i3 tt) (hi5 : i5 = own_f4 cs i4 tt) (hi6 : i6 = own_f4 cs i5 tt) (hi7 : i7 = own_f4 cs i6 tt) (hi8 : i8 = own_f4 cs i7 tt) (h : i8 = tt) : gg = (1 : Int32) := by
  rcases own_both hok hff htt huu hvv hgg hi1 hi2 hi3 hi4 hi5 hi6 hi7 hi8 with q | q
  · exact q.1
  · exact absurd h q.2
theorem own_no (hok : own_ok cs) (hff : ff = own_f1 uu vv) (htt : tt = own_f2 uu vv) (huu : uu = (own_irem (p &&& (2147483647 : Int32)) (9 : Int32))) (hvv : vv = (own_irem (q &&& (2147483647 : Int32)) (9 : Int32))) (hgg : gg = own_utf cs tt 8 ff) (hi1 : i1 = own_f4 cs ff tt) (hi2 : i2 = own_f4 cs i1 tt) (hi3 : i3 = own_f4 cs i2 tt) (hi4 : i4 = own_f4 cs i3 tt) (hi5 : i5 = own_f4 cs i4 tt) (hi6 : i6 = own_f4 cs i5 tt) (hi7 : i7 = own_f4 cs i6 tt) (hi8 : i8 = own_f4 cs i7 tt) (h : ¬ i8 = tt) : gg = (0 : Int32) := by
  rcases own_both hok hff htt huu hvv hgg hi1 hi2 hi3 hi4 hi5 hi6 hi7 hi8 with q | q
  · exact absurd q.2 h
  · exact q.1
end OwnLaw

theorem pn_0 : plainName "com/example/kazalo/kazalo/records/EncodingFaultsIsUtf8PinLaw" = true := by first | (simp [plainName, overriddenIn]; done) | decide +kernel
theorem pd_rm0_0 : parseMethodDescriptor "(II)I" = some ⟨[.int, .int], some .int⟩ := by decide +kernel
theorem pd_rm0_1 : parseMethodDescriptor "([BII)Z" = some ⟨[(.array .byte), .int, .int], some .boolean⟩ := by decide +kernel
theorem pd_rm0_2 : parseMethodDescriptor "([BII)I" = some ⟨[(.array .byte), .int, .int], some .int⟩ := by decide +kernel
theorem ef_rm0 (m : MethodId) (q0 : Int64) (p1 : Int32) (p2 : Int32) : entryFrame m #[(.long q0), (.int p1), (.int p2)] maxLocals = mkF m 0 #[.val (.long q0), .second, .val (.int p1), .val (.int p2), .unset, .unset, .unset, .unset, .unset, .unset, .unset] [] := by first | (simp [entryFrame, mkF, argsToLocals, Value.category, maxLocals]; done) | rfl
def rm0Q (Z : State) (q0 : Int64) (p1 p2 : Int32) (h0 : Heap) (n0 : Nat) (v : Option Value) (h : Heap) (L : List Loc) : Prop := v = some (.int (1 : Int32)) ∧ Fr n0 L
set_option maxRecDepth 65536 in
set_option maxHeartbeats 40000000 in
theorem rm0 (l : Launch) (Z : State) (aw : Array Value) (hw : ∀ d ∈ tables_1, d.before aw Z = true) (ws : List Jvm.Cond) (q0 : Int64) (p1 : Int32) (p2 : Int32) (h0 : Heap) (n0 : Nat) (Z0 : n0 ≤ h0.size) :
    MetFree l x (head1 (Jvm.Cond.code x code maxLocals ret :: ws) room_1) (fun a U => a = #[(.long q0), (.int p1), (.int p2)] ∧ Z.Warmed39 U.vm ∧ U.heap = h0) (fun _ _ _ _ _ => True) (fun _ U o U' => ∃ v L, o = .returned v ∧ rm0Q Z q0 p1 p2 h0 n0 v U'.heap L ∧ FrameEnd U o U' L room_1.cells room_1.slots) := by
  refine MetFree.of_bodySF (plainFor_of_name pn_0) hisR ?_
  intro p e s m args below meth c s₁ Bd hml0 hP hK
  obtain ⟨rfl, hZ, hh⟩ := hP
  have hx := Bd.exec
  have hby := Bd.bytes
  have hml : c.maxLocals = 11 := hml0
  have hown : s.vm.findClass "com/example/kazalo/kazalo/records/EncodingFaultsIsUtf8PinLaw" = some m.cls := findClass_of_methodNamed Bd.named
  have hnm := (name_of_methodNamed Bd.named Bd.method).1
  have X0 : Stand p l e room_1 s m #[(.long q0), (.int p1), (.int p2)] below meth c s₁ [] 0 0 := Stand.of_body Bd
  have e0 : s₁.heap = h0 := by rw [← hh, Bd.state]; rfl
  have N0 := Fr.nil n0
  have pre0 : ∀ t, Steps p.tables e below (s₁.setTop (mkF m 0 #[.val (.long q0), .second, .val (.int p1), .val (.int p2), .unset, .unset, .unset, .unset, .unset, .unset, .unset] [])) t → Steps p.tables e below (s₁.setTop (entryFrame m #[(.long q0), (.int p1), (.int p2)] maxLocals)) t := fun t k => castTop (ef_rm0 m q0 p1 p2) k
  obtain ⟨T1, h1, k1, X1, e1, E1, A1, st1⟩ := newP X0 hx hZ (hw _ (List.mem_of_getElem? (i := 0) rfl)) e0 (g := (mkF m 2 #[.val (.long q0), .second, .val (.int p1), .val (.int p2), .unset, .unset, .unset, .unset, .unset, .unset, .unset] [(.int (8 : Int32))])) rfl (hb hby at_2) rfl (by decide) (cap := 8) (by decide) (by decide) (by decide) (by decide)
  obtain ⟨b1, g1⟩ : ∃ z, z = h0.size := ⟨_, rfl⟩
  rw [← g1] at A1 st1
  have g_b1 : n0 ≤ b1 := Nat.le_trans Z0 (Nat.le_of_eq g1.symm)
  have sz_b1 : h0.size ≤ b1 := Nat.le_trans (Keep.refl h0 []).1 (Nat.le_of_eq g1.symm)
  have V_b1 : Arv Z h1 b1 k1 .byte (8 : Int32) [(.int (0 : Int32)), (.int (0 : Int32)), (.int (0 : Int32)), (.int (0 : Int32)), (.int (0 : Int32)), (.int (0 : Int32)), (.int (0 : Int32)), (.int (0 : Int32))] (.int (0 : Int32)) := (Arv.new A1 (by decide)).pad (pad_rep [] (.int (0 : Int32)) 8)
  have pre2 : ∀ t, Steps p.tables e below (T1.setTop (mkF m 12 #[.val (.long q0), .second, .val (.int p1), .val (.int p2), .val (.ref b1), .unset, .unset, .unset, .unset, .unset, .unset] [(.int ((q0.toInt32).toInt8.toInt32)), (.int (0 : Int32)), (.ref b1)])) t → Steps p.tables e below (s₁.setTop (entryFrame m #[(.long q0), (.int p1), (.int p2)] maxLocals)) t := fun t k => pre0 t (by
    show Steps p.tables e below (s₁.setTop (mkF m 0 #[.val (.long q0), .second, .val (.int p1), .val (.int p2), .unset, .unset, .unset, .unset, .unset, .unset, .unset] [])) _
    refine XS.bipush X0.here hx rfl (hb hby at_0) ?_
    show Steps p.tables e below (s₁.setTop (mkF m 2 #[.val (.long q0), .second, .val (.int p1), .val (.int p2), .unset, .unset, .unset, .unset, .unset, .unset, .unset] [(.int (8 : Int32))])) _
    refine st1 _ ?_
    show Steps p.tables e below (T1.setTop (mkF m 4 #[.val (.long q0), .second, .val (.int p1), .val (.int p2), .unset, .unset, .unset, .unset, .unset, .unset, .unset] [(.ref b1)])) _
    refine XS.astore X1.here hx rfl (hb hby at_4) rfl rfl (l' := #[.val (.long q0), .second, .val (.int p1), .val (.int p2), .val (.ref b1), .unset, .unset, .unset, .unset, .unset, .unset]) rfl ?_
    show Steps p.tables e below (T1.setTop (mkF m 6 #[.val (.long q0), .second, .val (.int p1), .val (.int p2), .val (.ref b1), .unset, .unset, .unset, .unset, .unset, .unset] [])) _
    refine XS.aload X1.here hx rfl (hb hby at_6) rfl rfl ?_
    show Steps p.tables e below (T1.setTop (mkF m 8 #[.val (.long q0), .second, .val (.int p1), .val (.int p2), .val (.ref b1), .unset, .unset, .unset, .unset, .unset, .unset] [(.ref b1)])) _
    refine XS.iconst X1.here hx rfl (hb hby at_8) ?_
    show Steps p.tables e below (T1.setTop (mkF m 9 #[.val (.long q0), .second, .val (.int p1), .val (.int p2), .val (.ref b1), .unset, .unset, .unset, .unset, .unset, .unset] [(.int (0 : Int32)), (.ref b1)])) _
    refine XS.lloadN X1.here hx rfl (hb hby at_9) rfl ?_
    show Steps p.tables e below (T1.setTop (mkF m 10 #[.val (.long q0), .second, .val (.int p1), .val (.int p2), .val (.ref b1), .unset, .unset, .unset, .unset, .unset, .unset] [(.long q0), (.int (0 : Int32)), (.ref b1)])) _
    refine XS.l2i X1.here hx rfl (hb hby at_10) rfl ?_
    show Steps p.tables e below (T1.setTop (mkF m 11 #[.val (.long q0), .second, .val (.int p1), .val (.int p2), .val (.ref b1), .unset, .unset, .unset, .unset, .unset, .unset] [(.int (q0.toInt32)), (.int (0 : Int32)), (.ref b1)])) _
    refine XS.i2b X1.here hx rfl (hb hby at_11) rfl ?_
    exact k)
  obtain ⟨e0, he0⟩ : ∃ z : Int32, z = ((q0.toInt32).toInt8.toInt32) := ⟨_, rfl⟩
  rw [← he0] at pre2
  obtain ⟨cl3, Ar3, q3, S3, N3', H3, G3⟩ := id V_b1
  have hin3 : ¬ ((0 : Int32) < 0 ∨ cl3.slots.size ≤ ((0 : Int32)).toNatClampNeg) := inb_of S3 ⟨by decide, by decide⟩
  obtain ⟨T4, h4, X4, e4, W4, st4⟩ := stB X1 hx hZ e1 Ar3 (j := (0 : Int32)) hin3 (g := (mkF m 12 #[.val (.long q0), .second, .val (.int p1), .val (.int p2), .val (.ref b1), .unset, .unset, .unset, .unset, .unset, .unset] [(.int e0), (.int (0 : Int32)), (.ref b1)])) rfl rfl (hb hby at_12)
  have Vs4 : Arv Z h4 b1 k1 .byte (8 : Int32) [(.int (e0.toInt8.toInt32)), (.int (0 : Int32)), (.int (0 : Int32)), (.int (0 : Int32)), (.int (0 : Int32)), (.int (0 : Int32)), (.int (0 : Int32)), (.int (0 : Int32))] (.int (0 : Int32)) := Arv.set Ar3 q3 S3 N3' H3 G3 (fits_nar_byte _) W4 0 rfl (Nat.le_of_ble_eq_true rfl)
  have N4 := Fr.snoc X4 N0 g_b1
  have pre5 : ∀ t, Steps p.tables e below (T4.setTop (mkF m 22 #[.val (.long q0), .second, .val (.int p1), .val (.int p2), .val (.ref b1), .unset, .unset, .unset, .unset, .unset, .unset] [(.int ((((q0.toUInt64 >>> ((8 : Int32) &&& 0x3f).toInt64.toUInt64).toInt64).toInt32).toInt8.toInt32)), (.int (1 : Int32)), (.ref b1)])) t → Steps p.tables e below (s₁.setTop (entryFrame m #[(.long q0), (.int p1), (.int p2)] maxLocals)) t := fun t k => pre2 t (by
    show Steps p.tables e below (T1.setTop (mkF m 12 #[.val (.long q0), .second, .val (.int p1), .val (.int p2), .val (.ref b1), .unset, .unset, .unset, .unset, .unset, .unset] [(.int e0), (.int (0 : Int32)), (.ref b1)])) _
    refine st4 _ ?_
    show Steps p.tables e below (T4.setTop (mkF m 13 #[.val (.long q0), .second, .val (.int p1), .val (.int p2), .val (.ref b1), .unset, .unset, .unset, .unset, .unset, .unset] [])) _
    refine XS.aload X4.here hx rfl (hb hby at_13) rfl rfl ?_
    show Steps p.tables e below (T4.setTop (mkF m 15 #[.val (.long q0), .second, .val (.int p1), .val (.int p2), .val (.ref b1), .unset, .unset, .unset, .unset, .unset, .unset] [(.ref b1)])) _
    refine XS.iconst X4.here hx rfl (hb hby at_15) ?_
    show Steps p.tables e below (T4.setTop (mkF m 16 #[.val (.long q0), .second, .val (.int p1), .val (.int p2), .val (.ref b1), .unset, .unset, .unset, .unset, .unset, .unset] [(.int (1 : Int32)), (.ref b1)])) _
    refine XS.lloadN X4.here hx rfl (hb hby at_16) rfl ?_
    show Steps p.tables e below (T4.setTop (mkF m 17 #[.val (.long q0), .second, .val (.int p1), .val (.int p2), .val (.ref b1), .unset, .unset, .unset, .unset, .unset, .unset] [(.long q0), (.int (1 : Int32)), (.ref b1)])) _
    refine XS.bipush X4.here hx rfl (hb hby at_17) ?_
    show Steps p.tables e below (T4.setTop (mkF m 19 #[.val (.long q0), .second, .val (.int p1), .val (.int p2), .val (.ref b1), .unset, .unset, .unset, .unset, .unset, .unset] [(.int (8 : Int32)), (.long q0), (.int (1 : Int32)), (.ref b1)])) _
    refine XS.lushr X4.here hx rfl (hb hby at_19) rfl ?_
    show Steps p.tables e below (T4.setTop (mkF m 20 #[.val (.long q0), .second, .val (.int p1), .val (.int p2), .val (.ref b1), .unset, .unset, .unset, .unset, .unset, .unset] [(.long ((q0.toUInt64 >>> ((8 : Int32) &&& 0x3f).toInt64.toUInt64).toInt64)), (.int (1 : Int32)), (.ref b1)])) _
    refine XS.l2i X4.here hx rfl (hb hby at_20) rfl ?_
    show Steps p.tables e below (T4.setTop (mkF m 21 #[.val (.long q0), .second, .val (.int p1), .val (.int p2), .val (.ref b1), .unset, .unset, .unset, .unset, .unset, .unset] [(.int (((q0.toUInt64 >>> ((8 : Int32) &&& 0x3f).toInt64.toUInt64).toInt64).toInt32)), (.int (1 : Int32)), (.ref b1)])) _
    refine XS.i2b X4.here hx rfl (hb hby at_21) rfl ?_
    exact k)
  obtain ⟨e1, he1⟩ : ∃ z : Int32, z = ((((q0.toUInt64 >>> ((8 : Int32) &&& 0x3f).toInt64.toUInt64).toInt64).toInt32).toInt8.toInt32) := ⟨_, rfl⟩
  rw [← he1] at pre5
  obtain ⟨cl6, Ar6, q6, S6, N6', H6, G6⟩ := id Vs4
  have hin6 : ¬ ((1 : Int32) < 0 ∨ cl6.slots.size ≤ ((1 : Int32)).toNatClampNeg) := inb_of S6 ⟨by decide, by decide⟩
  obtain ⟨T7, h7, X7, e7, W7, st7⟩ := stB X4 hx hZ e4 Ar6 (j := (1 : Int32)) hin6 (g := (mkF m 22 #[.val (.long q0), .second, .val (.int p1), .val (.int p2), .val (.ref b1), .unset, .unset, .unset, .unset, .unset, .unset] [(.int e1), (.int (1 : Int32)), (.ref b1)])) rfl rfl (hb hby at_22)
  have Vs7 : Arv Z h7 b1 k1 .byte (8 : Int32) [(.int (e0.toInt8.toInt32)), (.int (e1.toInt8.toInt32)), (.int (0 : Int32)), (.int (0 : Int32)), (.int (0 : Int32)), (.int (0 : Int32)), (.int (0 : Int32)), (.int (0 : Int32))] (.int (0 : Int32)) := Arv.set Ar6 q6 S6 N6' H6 G6 (fits_nar_byte _) W7 1 rfl (Nat.le_of_ble_eq_true rfl)
  have N7 := Fr.snoc X7 N4 g_b1
  have pre8 : ∀ t, Steps p.tables e below (T7.setTop (mkF m 32 #[.val (.long q0), .second, .val (.int p1), .val (.int p2), .val (.ref b1), .unset, .unset, .unset, .unset, .unset, .unset] [(.int ((((q0.toUInt64 >>> ((16 : Int32) &&& 0x3f).toInt64.toUInt64).toInt64).toInt32).toInt8.toInt32)), (.int (2 : Int32)), (.ref b1)])) t → Steps p.tables e below (s₁.setTop (entryFrame m #[(.long q0), (.int p1), (.int p2)] maxLocals)) t := fun t k => pre5 t (by
    show Steps p.tables e below (T4.setTop (mkF m 22 #[.val (.long q0), .second, .val (.int p1), .val (.int p2), .val (.ref b1), .unset, .unset, .unset, .unset, .unset, .unset] [(.int e1), (.int (1 : Int32)), (.ref b1)])) _
    refine st7 _ ?_
    show Steps p.tables e below (T7.setTop (mkF m 23 #[.val (.long q0), .second, .val (.int p1), .val (.int p2), .val (.ref b1), .unset, .unset, .unset, .unset, .unset, .unset] [])) _
    refine XS.aload X7.here hx rfl (hb hby at_23) rfl rfl ?_
    show Steps p.tables e below (T7.setTop (mkF m 25 #[.val (.long q0), .second, .val (.int p1), .val (.int p2), .val (.ref b1), .unset, .unset, .unset, .unset, .unset, .unset] [(.ref b1)])) _
    refine XS.iconst X7.here hx rfl (hb hby at_25) ?_
    show Steps p.tables e below (T7.setTop (mkF m 26 #[.val (.long q0), .second, .val (.int p1), .val (.int p2), .val (.ref b1), .unset, .unset, .unset, .unset, .unset, .unset] [(.int (2 : Int32)), (.ref b1)])) _
    refine XS.lloadN X7.here hx rfl (hb hby at_26) rfl ?_
    show Steps p.tables e below (T7.setTop (mkF m 27 #[.val (.long q0), .second, .val (.int p1), .val (.int p2), .val (.ref b1), .unset, .unset, .unset, .unset, .unset, .unset] [(.long q0), (.int (2 : Int32)), (.ref b1)])) _
    refine XS.bipush X7.here hx rfl (hb hby at_27) ?_
    show Steps p.tables e below (T7.setTop (mkF m 29 #[.val (.long q0), .second, .val (.int p1), .val (.int p2), .val (.ref b1), .unset, .unset, .unset, .unset, .unset, .unset] [(.int (16 : Int32)), (.long q0), (.int (2 : Int32)), (.ref b1)])) _
    refine XS.lushr X7.here hx rfl (hb hby at_29) rfl ?_
    show Steps p.tables e below (T7.setTop (mkF m 30 #[.val (.long q0), .second, .val (.int p1), .val (.int p2), .val (.ref b1), .unset, .unset, .unset, .unset, .unset, .unset] [(.long ((q0.toUInt64 >>> ((16 : Int32) &&& 0x3f).toInt64.toUInt64).toInt64)), (.int (2 : Int32)), (.ref b1)])) _
    refine XS.l2i X7.here hx rfl (hb hby at_30) rfl ?_
    show Steps p.tables e below (T7.setTop (mkF m 31 #[.val (.long q0), .second, .val (.int p1), .val (.int p2), .val (.ref b1), .unset, .unset, .unset, .unset, .unset, .unset] [(.int (((q0.toUInt64 >>> ((16 : Int32) &&& 0x3f).toInt64.toUInt64).toInt64).toInt32)), (.int (2 : Int32)), (.ref b1)])) _
    refine XS.i2b X7.here hx rfl (hb hby at_31) rfl ?_
    exact k)
  obtain ⟨e2, he2⟩ : ∃ z : Int32, z = ((((q0.toUInt64 >>> ((16 : Int32) &&& 0x3f).toInt64.toUInt64).toInt64).toInt32).toInt8.toInt32) := ⟨_, rfl⟩
  rw [← he2] at pre8
  obtain ⟨cl9, Ar9, q9, S9, N9', H9, G9⟩ := id Vs7
  have hin9 : ¬ ((2 : Int32) < 0 ∨ cl9.slots.size ≤ ((2 : Int32)).toNatClampNeg) := inb_of S9 ⟨by decide, by decide⟩
  obtain ⟨T10, h10, X10, e10, W10, st10⟩ := stB X7 hx hZ e7 Ar9 (j := (2 : Int32)) hin9 (g := (mkF m 32 #[.val (.long q0), .second, .val (.int p1), .val (.int p2), .val (.ref b1), .unset, .unset, .unset, .unset, .unset, .unset] [(.int e2), (.int (2 : Int32)), (.ref b1)])) rfl rfl (hb hby at_32)
  have Vs10 : Arv Z h10 b1 k1 .byte (8 : Int32) [(.int (e0.toInt8.toInt32)), (.int (e1.toInt8.toInt32)), (.int (e2.toInt8.toInt32)), (.int (0 : Int32)), (.int (0 : Int32)), (.int (0 : Int32)), (.int (0 : Int32)), (.int (0 : Int32))] (.int (0 : Int32)) := Arv.set Ar9 q9 S9 N9' H9 G9 (fits_nar_byte _) W10 2 rfl (Nat.le_of_ble_eq_true rfl)
  have N10 := Fr.snoc X10 N7 g_b1
  have pre11 : ∀ t, Steps p.tables e below (T10.setTop (mkF m 42 #[.val (.long q0), .second, .val (.int p1), .val (.int p2), .val (.ref b1), .unset, .unset, .unset, .unset, .unset, .unset] [(.int ((((q0.toUInt64 >>> ((24 : Int32) &&& 0x3f).toInt64.toUInt64).toInt64).toInt32).toInt8.toInt32)), (.int (3 : Int32)), (.ref b1)])) t → Steps p.tables e below (s₁.setTop (entryFrame m #[(.long q0), (.int p1), (.int p2)] maxLocals)) t := fun t k => pre8 t (by
    show Steps p.tables e below (T7.setTop (mkF m 32 #[.val (.long q0), .second, .val (.int p1), .val (.int p2), .val (.ref b1), .unset, .unset, .unset, .unset, .unset, .unset] [(.int e2), (.int (2 : Int32)), (.ref b1)])) _
    refine st10 _ ?_
    show Steps p.tables e below (T10.setTop (mkF m 33 #[.val (.long q0), .second, .val (.int p1), .val (.int p2), .val (.ref b1), .unset, .unset, .unset, .unset, .unset, .unset] [])) _
    refine XS.aload X10.here hx rfl (hb hby at_33) rfl rfl ?_
    show Steps p.tables e below (T10.setTop (mkF m 35 #[.val (.long q0), .second, .val (.int p1), .val (.int p2), .val (.ref b1), .unset, .unset, .unset, .unset, .unset, .unset] [(.ref b1)])) _
    refine XS.iconst X10.here hx rfl (hb hby at_35) ?_
    show Steps p.tables e below (T10.setTop (mkF m 36 #[.val (.long q0), .second, .val (.int p1), .val (.int p2), .val (.ref b1), .unset, .unset, .unset, .unset, .unset, .unset] [(.int (3 : Int32)), (.ref b1)])) _
    refine XS.lloadN X10.here hx rfl (hb hby at_36) rfl ?_
    show Steps p.tables e below (T10.setTop (mkF m 37 #[.val (.long q0), .second, .val (.int p1), .val (.int p2), .val (.ref b1), .unset, .unset, .unset, .unset, .unset, .unset] [(.long q0), (.int (3 : Int32)), (.ref b1)])) _
    refine XS.bipush X10.here hx rfl (hb hby at_37) ?_
    show Steps p.tables e below (T10.setTop (mkF m 39 #[.val (.long q0), .second, .val (.int p1), .val (.int p2), .val (.ref b1), .unset, .unset, .unset, .unset, .unset, .unset] [(.int (24 : Int32)), (.long q0), (.int (3 : Int32)), (.ref b1)])) _
    refine XS.lushr X10.here hx rfl (hb hby at_39) rfl ?_
    show Steps p.tables e below (T10.setTop (mkF m 40 #[.val (.long q0), .second, .val (.int p1), .val (.int p2), .val (.ref b1), .unset, .unset, .unset, .unset, .unset, .unset] [(.long ((q0.toUInt64 >>> ((24 : Int32) &&& 0x3f).toInt64.toUInt64).toInt64)), (.int (3 : Int32)), (.ref b1)])) _
    refine XS.l2i X10.here hx rfl (hb hby at_40) rfl ?_
    show Steps p.tables e below (T10.setTop (mkF m 41 #[.val (.long q0), .second, .val (.int p1), .val (.int p2), .val (.ref b1), .unset, .unset, .unset, .unset, .unset, .unset] [(.int (((q0.toUInt64 >>> ((24 : Int32) &&& 0x3f).toInt64.toUInt64).toInt64).toInt32)), (.int (3 : Int32)), (.ref b1)])) _
    refine XS.i2b X10.here hx rfl (hb hby at_41) rfl ?_
    exact k)
  obtain ⟨e3, he3⟩ : ∃ z : Int32, z = ((((q0.toUInt64 >>> ((24 : Int32) &&& 0x3f).toInt64.toUInt64).toInt64).toInt32).toInt8.toInt32) := ⟨_, rfl⟩
  rw [← he3] at pre11
  obtain ⟨cl12, Ar12, q12, S12, N12', H12, G12⟩ := id Vs10
  have hin12 : ¬ ((3 : Int32) < 0 ∨ cl12.slots.size ≤ ((3 : Int32)).toNatClampNeg) := inb_of S12 ⟨by decide, by decide⟩
  obtain ⟨T13, h13, X13, e13, W13, st13⟩ := stB X10 hx hZ e10 Ar12 (j := (3 : Int32)) hin12 (g := (mkF m 42 #[.val (.long q0), .second, .val (.int p1), .val (.int p2), .val (.ref b1), .unset, .unset, .unset, .unset, .unset, .unset] [(.int e3), (.int (3 : Int32)), (.ref b1)])) rfl rfl (hb hby at_42)
  have Vs13 : Arv Z h13 b1 k1 .byte (8 : Int32) [(.int (e0.toInt8.toInt32)), (.int (e1.toInt8.toInt32)), (.int (e2.toInt8.toInt32)), (.int (e3.toInt8.toInt32)), (.int (0 : Int32)), (.int (0 : Int32)), (.int (0 : Int32)), (.int (0 : Int32))] (.int (0 : Int32)) := Arv.set Ar12 q12 S12 N12' H12 G12 (fits_nar_byte _) W13 3 rfl (Nat.le_of_ble_eq_true rfl)
  have N13 := Fr.snoc X13 N10 g_b1
  have pre14 : ∀ t, Steps p.tables e below (T13.setTop (mkF m 52 #[.val (.long q0), .second, .val (.int p1), .val (.int p2), .val (.ref b1), .unset, .unset, .unset, .unset, .unset, .unset] [(.int ((((q0.toUInt64 >>> ((32 : Int32) &&& 0x3f).toInt64.toUInt64).toInt64).toInt32).toInt8.toInt32)), (.int (4 : Int32)), (.ref b1)])) t → Steps p.tables e below (s₁.setTop (entryFrame m #[(.long q0), (.int p1), (.int p2)] maxLocals)) t := fun t k => pre11 t (by
    show Steps p.tables e below (T10.setTop (mkF m 42 #[.val (.long q0), .second, .val (.int p1), .val (.int p2), .val (.ref b1), .unset, .unset, .unset, .unset, .unset, .unset] [(.int e3), (.int (3 : Int32)), (.ref b1)])) _
    refine st13 _ ?_
    show Steps p.tables e below (T13.setTop (mkF m 43 #[.val (.long q0), .second, .val (.int p1), .val (.int p2), .val (.ref b1), .unset, .unset, .unset, .unset, .unset, .unset] [])) _
    refine XS.aload X13.here hx rfl (hb hby at_43) rfl rfl ?_
    show Steps p.tables e below (T13.setTop (mkF m 45 #[.val (.long q0), .second, .val (.int p1), .val (.int p2), .val (.ref b1), .unset, .unset, .unset, .unset, .unset, .unset] [(.ref b1)])) _
    refine XS.iconst X13.here hx rfl (hb hby at_45) ?_
    show Steps p.tables e below (T13.setTop (mkF m 46 #[.val (.long q0), .second, .val (.int p1), .val (.int p2), .val (.ref b1), .unset, .unset, .unset, .unset, .unset, .unset] [(.int (4 : Int32)), (.ref b1)])) _
    refine XS.lloadN X13.here hx rfl (hb hby at_46) rfl ?_
    show Steps p.tables e below (T13.setTop (mkF m 47 #[.val (.long q0), .second, .val (.int p1), .val (.int p2), .val (.ref b1), .unset, .unset, .unset, .unset, .unset, .unset] [(.long q0), (.int (4 : Int32)), (.ref b1)])) _
    refine XS.bipush X13.here hx rfl (hb hby at_47) ?_
    show Steps p.tables e below (T13.setTop (mkF m 49 #[.val (.long q0), .second, .val (.int p1), .val (.int p2), .val (.ref b1), .unset, .unset, .unset, .unset, .unset, .unset] [(.int (32 : Int32)), (.long q0), (.int (4 : Int32)), (.ref b1)])) _
    refine XS.lushr X13.here hx rfl (hb hby at_49) rfl ?_
    show Steps p.tables e below (T13.setTop (mkF m 50 #[.val (.long q0), .second, .val (.int p1), .val (.int p2), .val (.ref b1), .unset, .unset, .unset, .unset, .unset, .unset] [(.long ((q0.toUInt64 >>> ((32 : Int32) &&& 0x3f).toInt64.toUInt64).toInt64)), (.int (4 : Int32)), (.ref b1)])) _
    refine XS.l2i X13.here hx rfl (hb hby at_50) rfl ?_
    show Steps p.tables e below (T13.setTop (mkF m 51 #[.val (.long q0), .second, .val (.int p1), .val (.int p2), .val (.ref b1), .unset, .unset, .unset, .unset, .unset, .unset] [(.int (((q0.toUInt64 >>> ((32 : Int32) &&& 0x3f).toInt64.toUInt64).toInt64).toInt32)), (.int (4 : Int32)), (.ref b1)])) _
    refine XS.i2b X13.here hx rfl (hb hby at_51) rfl ?_
    exact k)
  obtain ⟨e4, he4⟩ : ∃ z : Int32, z = ((((q0.toUInt64 >>> ((32 : Int32) &&& 0x3f).toInt64.toUInt64).toInt64).toInt32).toInt8.toInt32) := ⟨_, rfl⟩
  rw [← he4] at pre14
  obtain ⟨cl15, Ar15, q15, S15, N15', H15, G15⟩ := id Vs13
  have hin15 : ¬ ((4 : Int32) < 0 ∨ cl15.slots.size ≤ ((4 : Int32)).toNatClampNeg) := inb_of S15 ⟨by decide, by decide⟩
  obtain ⟨T16, h16, X16, e16, W16, st16⟩ := stB X13 hx hZ e13 Ar15 (j := (4 : Int32)) hin15 (g := (mkF m 52 #[.val (.long q0), .second, .val (.int p1), .val (.int p2), .val (.ref b1), .unset, .unset, .unset, .unset, .unset, .unset] [(.int e4), (.int (4 : Int32)), (.ref b1)])) rfl rfl (hb hby at_52)
  have Vs16 : Arv Z h16 b1 k1 .byte (8 : Int32) [(.int (e0.toInt8.toInt32)), (.int (e1.toInt8.toInt32)), (.int (e2.toInt8.toInt32)), (.int (e3.toInt8.toInt32)), (.int (e4.toInt8.toInt32)), (.int (0 : Int32)), (.int (0 : Int32)), (.int (0 : Int32))] (.int (0 : Int32)) := Arv.set Ar15 q15 S15 N15' H15 G15 (fits_nar_byte _) W16 4 rfl (Nat.le_of_ble_eq_true rfl)
  have N16 := Fr.snoc X16 N13 g_b1
  have pre17 : ∀ t, Steps p.tables e below (T16.setTop (mkF m 62 #[.val (.long q0), .second, .val (.int p1), .val (.int p2), .val (.ref b1), .unset, .unset, .unset, .unset, .unset, .unset] [(.int ((((q0.toUInt64 >>> ((40 : Int32) &&& 0x3f).toInt64.toUInt64).toInt64).toInt32).toInt8.toInt32)), (.int (5 : Int32)), (.ref b1)])) t → Steps p.tables e below (s₁.setTop (entryFrame m #[(.long q0), (.int p1), (.int p2)] maxLocals)) t := fun t k => pre14 t (by
    show Steps p.tables e below (T13.setTop (mkF m 52 #[.val (.long q0), .second, .val (.int p1), .val (.int p2), .val (.ref b1), .unset, .unset, .unset, .unset, .unset, .unset] [(.int e4), (.int (4 : Int32)), (.ref b1)])) _
    refine st16 _ ?_
    show Steps p.tables e below (T16.setTop (mkF m 53 #[.val (.long q0), .second, .val (.int p1), .val (.int p2), .val (.ref b1), .unset, .unset, .unset, .unset, .unset, .unset] [])) _
    refine XS.aload X16.here hx rfl (hb hby at_53) rfl rfl ?_
    show Steps p.tables e below (T16.setTop (mkF m 55 #[.val (.long q0), .second, .val (.int p1), .val (.int p2), .val (.ref b1), .unset, .unset, .unset, .unset, .unset, .unset] [(.ref b1)])) _
    refine XS.iconst X16.here hx rfl (hb hby at_55) ?_
    show Steps p.tables e below (T16.setTop (mkF m 56 #[.val (.long q0), .second, .val (.int p1), .val (.int p2), .val (.ref b1), .unset, .unset, .unset, .unset, .unset, .unset] [(.int (5 : Int32)), (.ref b1)])) _
    refine XS.lloadN X16.here hx rfl (hb hby at_56) rfl ?_
    show Steps p.tables e below (T16.setTop (mkF m 57 #[.val (.long q0), .second, .val (.int p1), .val (.int p2), .val (.ref b1), .unset, .unset, .unset, .unset, .unset, .unset] [(.long q0), (.int (5 : Int32)), (.ref b1)])) _
    refine XS.bipush X16.here hx rfl (hb hby at_57) ?_
    show Steps p.tables e below (T16.setTop (mkF m 59 #[.val (.long q0), .second, .val (.int p1), .val (.int p2), .val (.ref b1), .unset, .unset, .unset, .unset, .unset, .unset] [(.int (40 : Int32)), (.long q0), (.int (5 : Int32)), (.ref b1)])) _
    refine XS.lushr X16.here hx rfl (hb hby at_59) rfl ?_
    show Steps p.tables e below (T16.setTop (mkF m 60 #[.val (.long q0), .second, .val (.int p1), .val (.int p2), .val (.ref b1), .unset, .unset, .unset, .unset, .unset, .unset] [(.long ((q0.toUInt64 >>> ((40 : Int32) &&& 0x3f).toInt64.toUInt64).toInt64)), (.int (5 : Int32)), (.ref b1)])) _
    refine XS.l2i X16.here hx rfl (hb hby at_60) rfl ?_
    show Steps p.tables e below (T16.setTop (mkF m 61 #[.val (.long q0), .second, .val (.int p1), .val (.int p2), .val (.ref b1), .unset, .unset, .unset, .unset, .unset, .unset] [(.int (((q0.toUInt64 >>> ((40 : Int32) &&& 0x3f).toInt64.toUInt64).toInt64).toInt32)), (.int (5 : Int32)), (.ref b1)])) _
    refine XS.i2b X16.here hx rfl (hb hby at_61) rfl ?_
    exact k)
  obtain ⟨e5, he5⟩ : ∃ z : Int32, z = ((((q0.toUInt64 >>> ((40 : Int32) &&& 0x3f).toInt64.toUInt64).toInt64).toInt32).toInt8.toInt32) := ⟨_, rfl⟩
  rw [← he5] at pre17
  obtain ⟨cl18, Ar18, q18, S18, N18', H18, G18⟩ := id Vs16
  have hin18 : ¬ ((5 : Int32) < 0 ∨ cl18.slots.size ≤ ((5 : Int32)).toNatClampNeg) := inb_of S18 ⟨by decide, by decide⟩
  obtain ⟨T19, h19, X19, e19, W19, st19⟩ := stB X16 hx hZ e16 Ar18 (j := (5 : Int32)) hin18 (g := (mkF m 62 #[.val (.long q0), .second, .val (.int p1), .val (.int p2), .val (.ref b1), .unset, .unset, .unset, .unset, .unset, .unset] [(.int e5), (.int (5 : Int32)), (.ref b1)])) rfl rfl (hb hby at_62)
  have Vs19 : Arv Z h19 b1 k1 .byte (8 : Int32) [(.int (e0.toInt8.toInt32)), (.int (e1.toInt8.toInt32)), (.int (e2.toInt8.toInt32)), (.int (e3.toInt8.toInt32)), (.int (e4.toInt8.toInt32)), (.int (e5.toInt8.toInt32)), (.int (0 : Int32)), (.int (0 : Int32))] (.int (0 : Int32)) := Arv.set Ar18 q18 S18 N18' H18 G18 (fits_nar_byte _) W19 5 rfl (Nat.le_of_ble_eq_true rfl)
  have N19 := Fr.snoc X19 N16 g_b1
  have pre20 : ∀ t, Steps p.tables e below (T19.setTop (mkF m 73 #[.val (.long q0), .second, .val (.int p1), .val (.int p2), .val (.ref b1), .unset, .unset, .unset, .unset, .unset, .unset] [(.int ((((q0.toUInt64 >>> ((48 : Int32) &&& 0x3f).toInt64.toUInt64).toInt64).toInt32).toInt8.toInt32)), (.int (6 : Int32)), (.ref b1)])) t → Steps p.tables e below (s₁.setTop (entryFrame m #[(.long q0), (.int p1), (.int p2)] maxLocals)) t := fun t k => pre17 t (by
    show Steps p.tables e below (T16.setTop (mkF m 62 #[.val (.long q0), .second, .val (.int p1), .val (.int p2), .val (.ref b1), .unset, .unset, .unset, .unset, .unset, .unset] [(.int e5), (.int (5 : Int32)), (.ref b1)])) _
    refine st19 _ ?_
    show Steps p.tables e below (T19.setTop (mkF m 63 #[.val (.long q0), .second, .val (.int p1), .val (.int p2), .val (.ref b1), .unset, .unset, .unset, .unset, .unset, .unset] [])) _
    refine XS.aload X19.here hx rfl (hb hby at_63) rfl rfl ?_
    show Steps p.tables e below (T19.setTop (mkF m 65 #[.val (.long q0), .second, .val (.int p1), .val (.int p2), .val (.ref b1), .unset, .unset, .unset, .unset, .unset, .unset] [(.ref b1)])) _
    refine XS.bipush X19.here hx rfl (hb hby at_65) ?_
    show Steps p.tables e below (T19.setTop (mkF m 67 #[.val (.long q0), .second, .val (.int p1), .val (.int p2), .val (.ref b1), .unset, .unset, .unset, .unset, .unset, .unset] [(.int (6 : Int32)), (.ref b1)])) _
    refine XS.lloadN X19.here hx rfl (hb hby at_67) rfl ?_
    show Steps p.tables e below (T19.setTop (mkF m 68 #[.val (.long q0), .second, .val (.int p1), .val (.int p2), .val (.ref b1), .unset, .unset, .unset, .unset, .unset, .unset] [(.long q0), (.int (6 : Int32)), (.ref b1)])) _
    refine XS.bipush X19.here hx rfl (hb hby at_68) ?_
    show Steps p.tables e below (T19.setTop (mkF m 70 #[.val (.long q0), .second, .val (.int p1), .val (.int p2), .val (.ref b1), .unset, .unset, .unset, .unset, .unset, .unset] [(.int (48 : Int32)), (.long q0), (.int (6 : Int32)), (.ref b1)])) _
    refine XS.lushr X19.here hx rfl (hb hby at_70) rfl ?_
    show Steps p.tables e below (T19.setTop (mkF m 71 #[.val (.long q0), .second, .val (.int p1), .val (.int p2), .val (.ref b1), .unset, .unset, .unset, .unset, .unset, .unset] [(.long ((q0.toUInt64 >>> ((48 : Int32) &&& 0x3f).toInt64.toUInt64).toInt64)), (.int (6 : Int32)), (.ref b1)])) _
    refine XS.l2i X19.here hx rfl (hb hby at_71) rfl ?_
    show Steps p.tables e below (T19.setTop (mkF m 72 #[.val (.long q0), .second, .val (.int p1), .val (.int p2), .val (.ref b1), .unset, .unset, .unset, .unset, .unset, .unset] [(.int (((q0.toUInt64 >>> ((48 : Int32) &&& 0x3f).toInt64.toUInt64).toInt64).toInt32)), (.int (6 : Int32)), (.ref b1)])) _
    refine XS.i2b X19.here hx rfl (hb hby at_72) rfl ?_
    exact k)
  obtain ⟨e6, he6⟩ : ∃ z : Int32, z = ((((q0.toUInt64 >>> ((48 : Int32) &&& 0x3f).toInt64.toUInt64).toInt64).toInt32).toInt8.toInt32) := ⟨_, rfl⟩
  rw [← he6] at pre20
  obtain ⟨cl21, Ar21, q21, S21, N21', H21, G21⟩ := id Vs19
  have hin21 : ¬ ((6 : Int32) < 0 ∨ cl21.slots.size ≤ ((6 : Int32)).toNatClampNeg) := inb_of S21 ⟨by decide, by decide⟩
  obtain ⟨T22, h22, X22, e22, W22, st22⟩ := stB X19 hx hZ e19 Ar21 (j := (6 : Int32)) hin21 (g := (mkF m 73 #[.val (.long q0), .second, .val (.int p1), .val (.int p2), .val (.ref b1), .unset, .unset, .unset, .unset, .unset, .unset] [(.int e6), (.int (6 : Int32)), (.ref b1)])) rfl rfl (hb hby at_73)
  have Vs22 : Arv Z h22 b1 k1 .byte (8 : Int32) [(.int (e0.toInt8.toInt32)), (.int (e1.toInt8.toInt32)), (.int (e2.toInt8.toInt32)), (.int (e3.toInt8.toInt32)), (.int (e4.toInt8.toInt32)), (.int (e5.toInt8.toInt32)), (.int (e6.toInt8.toInt32)), (.int (0 : Int32))] (.int (0 : Int32)) := Arv.set Ar21 q21 S21 N21' H21 G21 (fits_nar_byte _) W22 6 rfl (Nat.le_of_ble_eq_true rfl)
  have N22 := Fr.snoc X22 N19 g_b1
  have pre23 : ∀ t, Steps p.tables e below (T22.setTop (mkF m 84 #[.val (.long q0), .second, .val (.int p1), .val (.int p2), .val (.ref b1), .unset, .unset, .unset, .unset, .unset, .unset] [(.int ((((q0.toUInt64 >>> ((56 : Int32) &&& 0x3f).toInt64.toUInt64).toInt64).toInt32).toInt8.toInt32)), (.int (7 : Int32)), (.ref b1)])) t → Steps p.tables e below (s₁.setTop (entryFrame m #[(.long q0), (.int p1), (.int p2)] maxLocals)) t := fun t k => pre20 t (by
    show Steps p.tables e below (T19.setTop (mkF m 73 #[.val (.long q0), .second, .val (.int p1), .val (.int p2), .val (.ref b1), .unset, .unset, .unset, .unset, .unset, .unset] [(.int e6), (.int (6 : Int32)), (.ref b1)])) _
    refine st22 _ ?_
    show Steps p.tables e below (T22.setTop (mkF m 74 #[.val (.long q0), .second, .val (.int p1), .val (.int p2), .val (.ref b1), .unset, .unset, .unset, .unset, .unset, .unset] [])) _
    refine XS.aload X22.here hx rfl (hb hby at_74) rfl rfl ?_
    show Steps p.tables e below (T22.setTop (mkF m 76 #[.val (.long q0), .second, .val (.int p1), .val (.int p2), .val (.ref b1), .unset, .unset, .unset, .unset, .unset, .unset] [(.ref b1)])) _
    refine XS.bipush X22.here hx rfl (hb hby at_76) ?_
    show Steps p.tables e below (T22.setTop (mkF m 78 #[.val (.long q0), .second, .val (.int p1), .val (.int p2), .val (.ref b1), .unset, .unset, .unset, .unset, .unset, .unset] [(.int (7 : Int32)), (.ref b1)])) _
    refine XS.lloadN X22.here hx rfl (hb hby at_78) rfl ?_
    show Steps p.tables e below (T22.setTop (mkF m 79 #[.val (.long q0), .second, .val (.int p1), .val (.int p2), .val (.ref b1), .unset, .unset, .unset, .unset, .unset, .unset] [(.long q0), (.int (7 : Int32)), (.ref b1)])) _
    refine XS.bipush X22.here hx rfl (hb hby at_79) ?_
    show Steps p.tables e below (T22.setTop (mkF m 81 #[.val (.long q0), .second, .val (.int p1), .val (.int p2), .val (.ref b1), .unset, .unset, .unset, .unset, .unset, .unset] [(.int (56 : Int32)), (.long q0), (.int (7 : Int32)), (.ref b1)])) _
    refine XS.lushr X22.here hx rfl (hb hby at_81) rfl ?_
    show Steps p.tables e below (T22.setTop (mkF m 82 #[.val (.long q0), .second, .val (.int p1), .val (.int p2), .val (.ref b1), .unset, .unset, .unset, .unset, .unset, .unset] [(.long ((q0.toUInt64 >>> ((56 : Int32) &&& 0x3f).toInt64.toUInt64).toInt64)), (.int (7 : Int32)), (.ref b1)])) _
    refine XS.l2i X22.here hx rfl (hb hby at_82) rfl ?_
    show Steps p.tables e below (T22.setTop (mkF m 83 #[.val (.long q0), .second, .val (.int p1), .val (.int p2), .val (.ref b1), .unset, .unset, .unset, .unset, .unset, .unset] [(.int (((q0.toUInt64 >>> ((56 : Int32) &&& 0x3f).toInt64.toUInt64).toInt64).toInt32)), (.int (7 : Int32)), (.ref b1)])) _
    refine XS.i2b X22.here hx rfl (hb hby at_83) rfl ?_
    exact k)
  obtain ⟨e7, he7⟩ : ∃ z : Int32, z = ((((q0.toUInt64 >>> ((56 : Int32) &&& 0x3f).toInt64.toUInt64).toInt64).toInt32).toInt8.toInt32) := ⟨_, rfl⟩
  rw [← he7] at pre23
  obtain ⟨cl24, Ar24, q24, S24, N24', H24, G24⟩ := id Vs22
  have hin24 : ¬ ((7 : Int32) < 0 ∨ cl24.slots.size ≤ ((7 : Int32)).toNatClampNeg) := inb_of S24 ⟨by decide, by decide⟩
  obtain ⟨T25, h25, X25, e25, W25, st25⟩ := stB X22 hx hZ e22 Ar24 (j := (7 : Int32)) hin24 (g := (mkF m 84 #[.val (.long q0), .second, .val (.int p1), .val (.int p2), .val (.ref b1), .unset, .unset, .unset, .unset, .unset, .unset] [(.int e7), (.int (7 : Int32)), (.ref b1)])) rfl rfl (hb hby at_84)
  have Vs25 : Arv Z h25 b1 k1 .byte (8 : Int32) [(.int (e0.toInt8.toInt32)), (.int (e1.toInt8.toInt32)), (.int (e2.toInt8.toInt32)), (.int (e3.toInt8.toInt32)), (.int (e4.toInt8.toInt32)), (.int (e5.toInt8.toInt32)), (.int (e6.toInt8.toInt32)), (.int (e7.toInt8.toInt32))] (.int (0 : Int32)) := Arv.set Ar24 q24 S24 N24' H24 G24 (fits_nar_byte _) W25 7 rfl (Nat.le_of_ble_eq_true rfl)
  have N25 := Fr.snoc X25 N22 g_b1
  obtain ⟨cs, hcs⟩ : ∃ z : List Int32, z = [(e0.toInt8.toInt32), (e1.toInt8.toInt32), (e2.toInt8.toInt32), (e3.toInt8.toInt32), (e4.toInt8.toInt32), (e5.toInt8.toInt32), (e6.toInt8.toInt32), (e7.toInt8.toInt32)] := ⟨_, rfl⟩
  have Vcs : Arv Z h25 b1 k1 .byte (8 : Int32) (cs.map Value.int) (.int (0 : Int32)) := by rw [hcs]; exact Vs25
  have hok := own_okcs hcs
  have pre26 : ∀ t, Steps p.tables e below (T25.setTop (mkF m 92 #[.val (.long q0), .second, .val (.int p1), .val (.int p2), .val (.ref b1), .unset, .unset, .unset, .unset, .unset, .unset] [(.int (own_irem (p1 &&& (2147483647 : Int32)) (9 : Int32)))])) t → Steps p.tables e below (s₁.setTop (entryFrame m #[(.long q0), (.int p1), (.int p2)] maxLocals)) t := fun t k => pre23 t (by
    show Steps p.tables e below (T22.setTop (mkF m 84 #[.val (.long q0), .second, .val (.int p1), .val (.int p2), .val (.ref b1), .unset, .unset, .unset, .unset, .unset, .unset] [(.int e7), (.int (7 : Int32)), (.ref b1)])) _
    refine st25 _ ?_
    show Steps p.tables e below (T25.setTop (mkF m 85 #[.val (.long q0), .second, .val (.int p1), .val (.int p2), .val (.ref b1), .unset, .unset, .unset, .unset, .unset, .unset] [])) _
    refine XS.iloadN X25.here hx rfl (hb hby at_85) rfl ?_
    show Steps p.tables e below (T25.setTop (mkF m 86 #[.val (.long q0), .second, .val (.int p1), .val (.int p2), .val (.ref b1), .unset, .unset, .unset, .unset, .unset, .unset] [(.int p1)])) _
    refine X25.ldcInt hx hown (mvT hZ (hw _ (List.mem_of_getElem? (i := 1) rfl))) (g := (mkF m 86 #[.val (.long q0), .second, .val (.int p1), .val (.int p2), .val (.ref b1), .unset, .unset, .unset, .unset, .unset, .unset] [(.int p1)])) rfl (hb hby at_86) _ ?_
    show Steps p.tables e below (T25.setTop (mkF m 88 #[.val (.long q0), .second, .val (.int p1), .val (.int p2), .val (.ref b1), .unset, .unset, .unset, .unset, .unset, .unset] [(.int (2147483647 : Int32)), (.int p1)])) _
    refine XS.iand X25.here hx rfl (hb hby at_88) rfl ?_
    show Steps p.tables e below (T25.setTop (mkF m 89 #[.val (.long q0), .second, .val (.int p1), .val (.int p2), .val (.ref b1), .unset, .unset, .unset, .unset, .unset, .unset] [(.int (p1 &&& (2147483647 : Int32)))])) _
    refine XS.bipush X25.here hx rfl (hb hby at_89) ?_
    show Steps p.tables e below (T25.setTop (mkF m 91 #[.val (.long q0), .second, .val (.int p1), .val (.int p2), .val (.ref b1), .unset, .unset, .unset, .unset, .unset, .unset] [(.int (9 : Int32)), (.int (p1 &&& (2147483647 : Int32)))])) _
    refine XS.irem X25.here hx rfl (hb hby at_91) rfl (by decide) ?_
    exact k)
  obtain ⟨uu, huu⟩ : ∃ z : Int32, z = (own_irem (p1 &&& (2147483647 : Int32)) (9 : Int32)) := ⟨_, rfl⟩
  rw [← huu] at pre26
  have pre27 : ∀ t, Steps p.tables e below (T25.setTop (mkF m 101 #[.val (.long q0), .second, .val (.int p1), .val (.int p2), .val (.ref b1), .val (.int uu), .unset, .unset, .unset, .unset, .unset] [(.int (own_irem (p2 &&& (2147483647 : Int32)) (9 : Int32)))])) t → Steps p.tables e below (s₁.setTop (entryFrame m #[(.long q0), (.int p1), (.int p2)] maxLocals)) t := fun t k => pre26 t (by
    show Steps p.tables e below (T25.setTop (mkF m 92 #[.val (.long q0), .second, .val (.int p1), .val (.int p2), .val (.ref b1), .unset, .unset, .unset, .unset, .unset, .unset] [(.int uu)])) _
    refine XS.istore X25.here hx rfl (hb hby at_92) rfl (l' := #[.val (.long q0), .second, .val (.int p1), .val (.int p2), .val (.ref b1), .val (.int uu), .unset, .unset, .unset, .unset, .unset]) rfl ?_
    show Steps p.tables e below (T25.setTop (mkF m 94 #[.val (.long q0), .second, .val (.int p1), .val (.int p2), .val (.ref b1), .val (.int uu), .unset, .unset, .unset, .unset, .unset] [])) _
    refine XS.iloadN X25.here hx rfl (hb hby at_94) rfl ?_
    show Steps p.tables e below (T25.setTop (mkF m 95 #[.val (.long q0), .second, .val (.int p1), .val (.int p2), .val (.ref b1), .val (.int uu), .unset, .unset, .unset, .unset, .unset] [(.int p2)])) _
    refine X25.ldcInt hx hown (mvT hZ (hw _ (List.mem_of_getElem? (i := 1) rfl))) (g := (mkF m 95 #[.val (.long q0), .second, .val (.int p1), .val (.int p2), .val (.ref b1), .val (.int uu), .unset, .unset, .unset, .unset, .unset] [(.int p2)])) rfl (hb hby at_95) _ ?_
    show Steps p.tables e below (T25.setTop (mkF m 97 #[.val (.long q0), .second, .val (.int p1), .val (.int p2), .val (.ref b1), .val (.int uu), .unset, .unset, .unset, .unset, .unset] [(.int (2147483647 : Int32)), (.int p2)])) _
    refine XS.iand X25.here hx rfl (hb hby at_97) rfl ?_
    show Steps p.tables e below (T25.setTop (mkF m 98 #[.val (.long q0), .second, .val (.int p1), .val (.int p2), .val (.ref b1), .val (.int uu), .unset, .unset, .unset, .unset, .unset] [(.int (p2 &&& (2147483647 : Int32)))])) _
    refine XS.bipush X25.here hx rfl (hb hby at_98) ?_
    show Steps p.tables e below (T25.setTop (mkF m 100 #[.val (.long q0), .second, .val (.int p1), .val (.int p2), .val (.ref b1), .val (.int uu), .unset, .unset, .unset, .unset, .unset] [(.int (9 : Int32)), (.int (p2 &&& (2147483647 : Int32)))])) _
    refine XS.irem X25.here hx rfl (hb hby at_100) rfl (by decide) ?_
    exact k)
  obtain ⟨vv, hvv⟩ : ∃ z : Int32, z = (own_irem (p2 &&& (2147483647 : Int32)) (9 : Int32)) := ⟨_, rfl⟩
  rw [← hvv] at pre27
  have Zz_29 : n0 ≤ h25.size := (Nat.le_trans (Nat.le_trans (Nat.le_trans (Nat.le_trans (Nat.le_trans (Nat.le_trans (Nat.le_trans (Nat.le_trans (Nat.le_trans Z0 E1.1) (Keep.of_wr W4).1) (Keep.of_wr W7).1) (Keep.of_wr W10).1) (Keep.of_wr W13).1) (Keep.of_wr W16).1) (Keep.of_wr W19).1) (Keep.of_wr W22).1) (Keep.of_wr W25).1)
  obtain ⟨_, _, ⟨T28, L28, k28, n28⟩, -, X28, ⟨Lc28, hQ28, l28, y28, z28⟩, st28⟩ := Jvm.LawKit.callS X25 hx (y := (⟨"java/lang/Math", "min", "(II)I"⟩ : MethodName)) hown (mvT hZ (hw _ (List.mem_of_getElem? (i := 2) rfl))) (mvT hZ (hw _ (List.mem_of_getElem? (i := 3) rfl))) (mvT hZ (hw _ (List.mem_of_getElem? (i := 4) rfl))) (mvT hZ (hw _ (List.mem_of_getElem? (i := 5) rfl))) (by decide) (backOf (W := 0) (rm1 l Z aw hw [] uu vv h25 n0 Zz_29) hZ (hw _ (List.mem_of_getElem? (i := 5) rfl)) (hw _ (List.mem_of_getElem? (i := 4) rfl)) (by decide) (by decide)) (g := (mkF m 107 #[.val (.long q0), .second, .val (.int p1), .val (.int p2), .val (.ref b1), .val (.int uu), .val (.int vv), .unset, .unset, .unset, .unset] [(.int vv), (.int uu)])) rfl (by rw [hml]; rfl) (argsL := [(.int uu), (.int vv)]) (rest := []) (lenOf pd_rm0_0 rfl) rfl (by show 2 * 0 + _ ≤ _; exact Nat.le_of_eq rfl) (hb hby at_107) (fun _ _ => ⟨rfl, e25, (by decide : 1 + 0 ≤ _), (by decide : 8 + 0 ≤ _)⟩)
  dsimp only [Pt.U, Pt.locs, Pt.cells, Pt.slots] at X28 l28 y28 z28 st28 hQ28
  subst l28 y28 z28
  obtain ⟨rfl, N28q, e28q⟩ := hQ28
  have N28 := Fr.app N25 N28q
  have pre30 : ∀ t, Steps p.tables e below (T28.setTop (mkF m 110 #[.val (.long q0), .second, .val (.int p1), .val (.int p2), .val (.ref b1), .val (.int uu), .val (.int vv), .unset, .unset, .unset, .unset] [(.int (own_f1 uu vv))])) t → Steps p.tables e below (s₁.setTop (entryFrame m #[(.long q0), (.int p1), (.int p2)] maxLocals)) t := fun t k => pre27 t (by
    show Steps p.tables e below (T25.setTop (mkF m 101 #[.val (.long q0), .second, .val (.int p1), .val (.int p2), .val (.ref b1), .val (.int uu), .unset, .unset, .unset, .unset, .unset] [(.int vv)])) _
    refine XS.istore X25.here hx rfl (hb hby at_101) rfl (l' := #[.val (.long q0), .second, .val (.int p1), .val (.int p2), .val (.ref b1), .val (.int uu), .val (.int vv), .unset, .unset, .unset, .unset]) rfl ?_
    show Steps p.tables e below (T25.setTop (mkF m 103 #[.val (.long q0), .second, .val (.int p1), .val (.int p2), .val (.ref b1), .val (.int uu), .val (.int vv), .unset, .unset, .unset, .unset] [])) _
    refine XS.iload X25.here hx rfl (hb hby at_103) rfl ?_
    show Steps p.tables e below (T25.setTop (mkF m 105 #[.val (.long q0), .second, .val (.int p1), .val (.int p2), .val (.ref b1), .val (.int uu), .val (.int vv), .unset, .unset, .unset, .unset] [(.int uu)])) _
    refine XS.iload X25.here hx rfl (hb hby at_105) rfl ?_
    show Steps p.tables e below (T25.setTop (mkF m 107 #[.val (.long q0), .second, .val (.int p1), .val (.int p2), .val (.ref b1), .val (.int uu), .val (.int vv), .unset, .unset, .unset, .unset] [(.int vv), (.int uu)])) _
    refine st28 _ ?_
    exact k)
  obtain ⟨ff, hff⟩ : ∃ z : Int32, z = (own_f1 uu vv) := ⟨_, rfl⟩
  rw [← hff] at pre30
  obtain ⟨_, _, ⟨T31, L31, k31, n31⟩, -, X31, ⟨Lc31, hQ31, l31, y31, z31⟩, st31⟩ := Jvm.LawKit.callS X28 hx (y := (⟨"java/lang/Math", "max", "(II)I"⟩ : MethodName)) hown (mvT hZ (hw _ (List.mem_of_getElem? (i := 6) rfl))) (mvT hZ (hw _ (List.mem_of_getElem? (i := 7) rfl))) (mvT hZ (hw _ (List.mem_of_getElem? (i := 4) rfl))) (mvT hZ (hw _ (List.mem_of_getElem? (i := 8) rfl))) (by decide) (backOf (W := 0) (rm2 l Z aw hw [] uu vv h25 n0 Zz_29) hZ (hw _ (List.mem_of_getElem? (i := 8) rfl)) (hw _ (List.mem_of_getElem? (i := 4) rfl)) (by decide) (by decide)) (g := (mkF m 116 #[.val (.long q0), .second, .val (.int p1), .val (.int p2), .val (.ref b1), .val (.int uu), .val (.int vv), .val (.int ff), .unset, .unset, .unset] [(.int vv), (.int uu)])) rfl (by rw [hml]; rfl) (argsL := [(.int uu), (.int vv)]) (rest := []) (lenOf pd_rm0_0 rfl) rfl (by show 2 * 0 + _ ≤ _; exact Nat.le_of_eq rfl) (hb hby at_116) (fun _ _ => ⟨rfl, e28q, (by decide : 1 + 0 ≤ _), (by decide : 8 + 0 ≤ _)⟩)
  dsimp only [Pt.U, Pt.locs, Pt.cells, Pt.slots] at X31 l31 y31 z31 st31 hQ31
  subst l31 y31 z31
  obtain ⟨rfl, N31q, e31q⟩ := hQ31
  have N31 := Fr.app N28 N31q
  have pre32 : ∀ t, Steps p.tables e below (T31.setTop (mkF m 119 #[.val (.long q0), .second, .val (.int p1), .val (.int p2), .val (.ref b1), .val (.int uu), .val (.int vv), .val (.int ff), .unset, .unset, .unset] [(.int (own_f2 uu vv))])) t → Steps p.tables e below (s₁.setTop (entryFrame m #[(.long q0), (.int p1), (.int p2)] maxLocals)) t := fun t k => pre30 t (by
    show Steps p.tables e below (T28.setTop (mkF m 110 #[.val (.long q0), .second, .val (.int p1), .val (.int p2), .val (.ref b1), .val (.int uu), .val (.int vv), .unset, .unset, .unset, .unset] [(.int ff)])) _
    refine XS.istore X28.here hx rfl (hb hby at_110) rfl (l' := #[.val (.long q0), .second, .val (.int p1), .val (.int p2), .val (.ref b1), .val (.int uu), .val (.int vv), .val (.int ff), .unset, .unset, .unset]) rfl ?_
    show Steps p.tables e below (T28.setTop (mkF m 112 #[.val (.long q0), .second, .val (.int p1), .val (.int p2), .val (.ref b1), .val (.int uu), .val (.int vv), .val (.int ff), .unset, .unset, .unset] [])) _
    refine XS.iload X28.here hx rfl (hb hby at_112) rfl ?_
    show Steps p.tables e below (T28.setTop (mkF m 114 #[.val (.long q0), .second, .val (.int p1), .val (.int p2), .val (.ref b1), .val (.int uu), .val (.int vv), .val (.int ff), .unset, .unset, .unset] [(.int uu)])) _
    refine XS.iload X28.here hx rfl (hb hby at_114) rfl ?_
    show Steps p.tables e below (T28.setTop (mkF m 116 #[.val (.long q0), .second, .val (.int p1), .val (.int p2), .val (.ref b1), .val (.int uu), .val (.int vv), .val (.int ff), .unset, .unset, .unset] [(.int vv), (.int uu)])) _
    refine st31 _ ?_
    exact k)
  obtain ⟨tt, htt⟩ : ∃ z : Int32, z = (own_f2 uu vv) := ⟨_, rfl⟩
  rw [← htt] at pre32
  obtain ⟨_, _, ⟨T33, L33, k33, n33⟩, -, X33, ⟨Lc33, hQ33, l33, y33, z33⟩, st33⟩ := Jvm.LawKit.callS X31 hx (y := (⟨"com/example/kazalo/kazalo/records/EncodingFaults", "isUtf8", "([BII)Z"⟩ : MethodName)) hown (mvT hZ (hw _ (List.mem_of_getElem? (i := 9) rfl))) (mvT hZ (hw _ (List.mem_of_getElem? (i := 10) rfl))) (mvT hZ (hw _ (List.mem_of_getElem? (i := 11) rfl))) (mvT hZ (hw _ (List.mem_of_getElem? (i := 12) rfl))) (by decide) (backOf (W := 0) (rm3 l Z aw hw [] b1 ff tt cs k1 h25 n0 Zz_29 Vcs (own_ff0 hff huu hvv) (own_ft hff htt) (own_t8 htt huu hvv)) hZ (hw _ (List.mem_of_getElem? (i := 12) rfl)) (hw _ (List.mem_of_getElem? (i := 11) rfl)) (by decide) (by decide)) (g := (mkF m 127 #[.val (.long q0), .second, .val (.int p1), .val (.int p2), .val (.ref b1), .val (.int uu), .val (.int vv), .val (.int ff), .val (.int tt), .unset, .unset] [(.int tt), (.int ff), (.ref b1)])) rfl (by rw [hml]; rfl) (argsL := [(.ref b1), (.int ff), (.int tt)]) (rest := []) (lenOf pd_rm0_1 rfl) rfl (by show 2 * 0 + _ ≤ _; exact Nat.le_of_eq rfl) (hb hby at_127) (fun _ _ => ⟨rfl, e31q, (by decide : 1 + 0 ≤ _), (by decide : 8 + 0 ≤ _)⟩)
  dsimp only [Pt.U, Pt.locs, Pt.cells, Pt.slots] at X33 l33 y33 z33 st33 hQ33
  subst l33 y33 z33
  obtain ⟨rfl, N33q, e33q⟩ := hQ33
  have N33 := Fr.app N31 N33q
  have pre34 : ∀ t, Steps p.tables e below (T33.setTop (mkF m 130 #[.val (.long q0), .second, .val (.int p1), .val (.int p2), .val (.ref b1), .val (.int uu), .val (.int vv), .val (.int ff), .val (.int tt), .unset, .unset] [(.int (own_utf cs tt 8 ff))])) t → Steps p.tables e below (s₁.setTop (entryFrame m #[(.long q0), (.int p1), (.int p2)] maxLocals)) t := fun t k => pre32 t (by
    show Steps p.tables e below (T31.setTop (mkF m 119 #[.val (.long q0), .second, .val (.int p1), .val (.int p2), .val (.ref b1), .val (.int uu), .val (.int vv), .val (.int ff), .unset, .unset, .unset] [(.int tt)])) _
    refine XS.istore X31.here hx rfl (hb hby at_119) rfl (l' := #[.val (.long q0), .second, .val (.int p1), .val (.int p2), .val (.ref b1), .val (.int uu), .val (.int vv), .val (.int ff), .val (.int tt), .unset, .unset]) rfl ?_
    show Steps p.tables e below (T31.setTop (mkF m 121 #[.val (.long q0), .second, .val (.int p1), .val (.int p2), .val (.ref b1), .val (.int uu), .val (.int vv), .val (.int ff), .val (.int tt), .unset, .unset] [])) _
    refine XS.aload X31.here hx rfl (hb hby at_121) rfl rfl ?_
    show Steps p.tables e below (T31.setTop (mkF m 123 #[.val (.long q0), .second, .val (.int p1), .val (.int p2), .val (.ref b1), .val (.int uu), .val (.int vv), .val (.int ff), .val (.int tt), .unset, .unset] [(.ref b1)])) _
    refine XS.iload X31.here hx rfl (hb hby at_123) rfl ?_
    show Steps p.tables e below (T31.setTop (mkF m 125 #[.val (.long q0), .second, .val (.int p1), .val (.int p2), .val (.ref b1), .val (.int uu), .val (.int vv), .val (.int ff), .val (.int tt), .unset, .unset] [(.int ff), (.ref b1)])) _
    refine XS.iload X31.here hx rfl (hb hby at_125) rfl ?_
    show Steps p.tables e below (T31.setTop (mkF m 127 #[.val (.long q0), .second, .val (.int p1), .val (.int p2), .val (.ref b1), .val (.int uu), .val (.int vv), .val (.int ff), .val (.int tt), .unset, .unset] [(.int tt), (.int ff), (.ref b1)])) _
    refine st33 _ ?_
    exact k)
  obtain ⟨gg, hgg⟩ : ∃ z : Int32, z = (own_utf cs tt 8 ff) := ⟨_, rfl⟩
  rw [← hgg] at pre34
  obtain ⟨_, _, ⟨T35, L35, k35, n35⟩, -, X35, ⟨Lc35, hQ35, l35, y35, z35⟩, st35⟩ := Jvm.LawKit.callS X33 hx (y := (⟨"com/example/kazalo/kazalo/records/EncodingFaultsIsUtf8PinLaw", "adv", "([BII)I"⟩ : MethodName)) hown (mvT hZ (hw _ (List.mem_of_getElem? (i := 13) rfl))) (mvT hZ (hw _ (List.mem_of_getElem? (i := 14) rfl))) (mvT hZ (hw _ (List.mem_of_getElem? (i := 15) rfl))) (mvT hZ (hw _ (List.mem_of_getElem? (i := 16) rfl))) (by decide) (backOf (W := 0) (rm4 l Z aw hw [] b1 ff tt cs k1 h25 n0 Zz_29 Vcs (own_t8 htt huu hvv)) hZ (hw _ (List.mem_of_getElem? (i := 16) rfl)) (hw _ (List.mem_of_getElem? (i := 15) rfl)) (by decide) (by decide)) (g := (mkF m 142 #[.val (.long q0), .second, .val (.int p1), .val (.int p2), .val (.ref b1), .val (.int uu), .val (.int vv), .val (.int ff), .val (.int tt), .val (.int gg), .val (.int ff)] [(.int tt), (.int ff), (.ref b1)])) rfl (by rw [hml]; rfl) (argsL := [(.ref b1), (.int ff), (.int tt)]) (rest := []) (lenOf pd_rm0_2 rfl) rfl (by show 2 * 0 + _ ≤ _; exact Nat.le_of_eq rfl) (hb hby at_142) (fun _ _ => ⟨rfl, e33q, (by decide : 1 + 0 ≤ _), (by decide : 8 + 0 ≤ _)⟩)
  dsimp only [Pt.U, Pt.locs, Pt.cells, Pt.slots] at X35 l35 y35 z35 st35 hQ35
  subst l35 y35 z35
  obtain ⟨rfl, N35q, e35q⟩ := hQ35
  have N35 := Fr.app N33 N35q
  have pre36 : ∀ t, Steps p.tables e below (T35.setTop (mkF m 145 #[.val (.long q0), .second, .val (.int p1), .val (.int p2), .val (.ref b1), .val (.int uu), .val (.int vv), .val (.int ff), .val (.int tt), .val (.int gg), .val (.int ff)] [(.int (own_f4 cs ff tt))])) t → Steps p.tables e below (s₁.setTop (entryFrame m #[(.long q0), (.int p1), (.int p2)] maxLocals)) t := fun t k => pre34 t (by
    show Steps p.tables e below (T33.setTop (mkF m 130 #[.val (.long q0), .second, .val (.int p1), .val (.int p2), .val (.ref b1), .val (.int uu), .val (.int vv), .val (.int ff), .val (.int tt), .unset, .unset] [(.int gg)])) _
    refine XS.istore X33.here hx rfl (hb hby at_130) rfl (l' := #[.val (.long q0), .second, .val (.int p1), .val (.int p2), .val (.ref b1), .val (.int uu), .val (.int vv), .val (.int ff), .val (.int tt), .val (.int gg), .unset]) rfl ?_
    show Steps p.tables e below (T33.setTop (mkF m 132 #[.val (.long q0), .second, .val (.int p1), .val (.int p2), .val (.ref b1), .val (.int uu), .val (.int vv), .val (.int ff), .val (.int tt), .val (.int gg), .unset] [])) _
    refine XS.iload X33.here hx rfl (hb hby at_132) rfl ?_
    show Steps p.tables e below (T33.setTop (mkF m 134 #[.val (.long q0), .second, .val (.int p1), .val (.int p2), .val (.ref b1), .val (.int uu), .val (.int vv), .val (.int ff), .val (.int tt), .val (.int gg), .unset] [(.int ff)])) _
    refine XS.istore X33.here hx rfl (hb hby at_134) rfl (l' := #[.val (.long q0), .second, .val (.int p1), .val (.int p2), .val (.ref b1), .val (.int uu), .val (.int vv), .val (.int ff), .val (.int tt), .val (.int gg), .val (.int ff)]) rfl ?_
    show Steps p.tables e below (T33.setTop (mkF m 136 #[.val (.long q0), .second, .val (.int p1), .val (.int p2), .val (.ref b1), .val (.int uu), .val (.int vv), .val (.int ff), .val (.int tt), .val (.int gg), .val (.int ff)] [])) _
    refine XS.aload X33.here hx rfl (hb hby at_136) rfl rfl ?_
    show Steps p.tables e below (T33.setTop (mkF m 138 #[.val (.long q0), .second, .val (.int p1), .val (.int p2), .val (.ref b1), .val (.int uu), .val (.int vv), .val (.int ff), .val (.int tt), .val (.int gg), .val (.int ff)] [(.ref b1)])) _
    refine XS.iload X33.here hx rfl (hb hby at_138) rfl ?_
    show Steps p.tables e below (T33.setTop (mkF m 140 #[.val (.long q0), .second, .val (.int p1), .val (.int p2), .val (.ref b1), .val (.int uu), .val (.int vv), .val (.int ff), .val (.int tt), .val (.int gg), .val (.int ff)] [(.int ff), (.ref b1)])) _
    refine XS.iload X33.here hx rfl (hb hby at_140) rfl ?_
    show Steps p.tables e below (T33.setTop (mkF m 142 #[.val (.long q0), .second, .val (.int p1), .val (.int p2), .val (.ref b1), .val (.int uu), .val (.int vv), .val (.int ff), .val (.int tt), .val (.int gg), .val (.int ff)] [(.int tt), (.int ff), (.ref b1)])) _
    refine st35 _ ?_
    exact k)
  obtain ⟨i1, hi1⟩ : ∃ z : Int32, z = (own_f4 cs ff tt) := ⟨_, rfl⟩
  rw [← hi1] at pre36
  obtain ⟨_, _, ⟨T37, L37, k37, n37⟩, -, X37, ⟨Lc37, hQ37, l37, y37, z37⟩, st37⟩ := Jvm.LawKit.callS X35 hx (y := (⟨"com/example/kazalo/kazalo/records/EncodingFaultsIsUtf8PinLaw", "adv", "([BII)I"⟩ : MethodName)) hown (mvT hZ (hw _ (List.mem_of_getElem? (i := 13) rfl))) (mvT hZ (hw _ (List.mem_of_getElem? (i := 14) rfl))) (mvT hZ (hw _ (List.mem_of_getElem? (i := 15) rfl))) (mvT hZ (hw _ (List.mem_of_getElem? (i := 16) rfl))) (by decide) (backOf (W := 0) (rm4 l Z aw hw [] b1 i1 tt cs k1 h25 n0 Zz_29 Vcs (own_t8 htt huu hvv)) hZ (hw _ (List.mem_of_getElem? (i := 16) rfl)) (hw _ (List.mem_of_getElem? (i := 15) rfl)) (by decide) (by decide)) (g := (mkF m 153 #[.val (.long q0), .second, .val (.int p1), .val (.int p2), .val (.ref b1), .val (.int uu), .val (.int vv), .val (.int ff), .val (.int tt), .val (.int gg), .val (.int i1)] [(.int tt), (.int i1), (.ref b1)])) rfl (by rw [hml]; rfl) (argsL := [(.ref b1), (.int i1), (.int tt)]) (rest := []) (lenOf pd_rm0_2 rfl) rfl (by show 2 * 0 + _ ≤ _; exact Nat.le_of_eq rfl) (hb hby at_153) (fun _ _ => ⟨rfl, e35q, (by decide : 1 + 0 ≤ _), (by decide : 8 + 0 ≤ _)⟩)
  dsimp only [Pt.U, Pt.locs, Pt.cells, Pt.slots] at X37 l37 y37 z37 st37 hQ37
  subst l37 y37 z37
  obtain ⟨rfl, N37q, e37q⟩ := hQ37
  have N37 := Fr.app N35 N37q
  have pre38 : ∀ t, Steps p.tables e below (T37.setTop (mkF m 156 #[.val (.long q0), .second, .val (.int p1), .val (.int p2), .val (.ref b1), .val (.int uu), .val (.int vv), .val (.int ff), .val (.int tt), .val (.int gg), .val (.int i1)] [(.int (own_f4 cs i1 tt))])) t → Steps p.tables e below (s₁.setTop (entryFrame m #[(.long q0), (.int p1), (.int p2)] maxLocals)) t := fun t k => pre36 t (by
    show Steps p.tables e below (T35.setTop (mkF m 145 #[.val (.long q0), .second, .val (.int p1), .val (.int p2), .val (.ref b1), .val (.int uu), .val (.int vv), .val (.int ff), .val (.int tt), .val (.int gg), .val (.int ff)] [(.int i1)])) _
    refine XS.istore X35.here hx rfl (hb hby at_145) rfl (l' := #[.val (.long q0), .second, .val (.int p1), .val (.int p2), .val (.ref b1), .val (.int uu), .val (.int vv), .val (.int ff), .val (.int tt), .val (.int gg), .val (.int i1)]) rfl ?_
    show Steps p.tables e below (T35.setTop (mkF m 147 #[.val (.long q0), .second, .val (.int p1), .val (.int p2), .val (.ref b1), .val (.int uu), .val (.int vv), .val (.int ff), .val (.int tt), .val (.int gg), .val (.int i1)] [])) _
    refine XS.aload X35.here hx rfl (hb hby at_147) rfl rfl ?_
    show Steps p.tables e below (T35.setTop (mkF m 149 #[.val (.long q0), .second, .val (.int p1), .val (.int p2), .val (.ref b1), .val (.int uu), .val (.int vv), .val (.int ff), .val (.int tt), .val (.int gg), .val (.int i1)] [(.ref b1)])) _
    refine XS.iload X35.here hx rfl (hb hby at_149) rfl ?_
    show Steps p.tables e below (T35.setTop (mkF m 151 #[.val (.long q0), .second, .val (.int p1), .val (.int p2), .val (.ref b1), .val (.int uu), .val (.int vv), .val (.int ff), .val (.int tt), .val (.int gg), .val (.int i1)] [(.int i1), (.ref b1)])) _
    refine XS.iload X35.here hx rfl (hb hby at_151) rfl ?_
    show Steps p.tables e below (T35.setTop (mkF m 153 #[.val (.long q0), .second, .val (.int p1), .val (.int p2), .val (.ref b1), .val (.int uu), .val (.int vv), .val (.int ff), .val (.int tt), .val (.int gg), .val (.int i1)] [(.int tt), (.int i1), (.ref b1)])) _
    refine st37 _ ?_
    exact k)
  obtain ⟨i2, hi2⟩ : ∃ z : Int32, z = (own_f4 cs i1 tt) := ⟨_, rfl⟩
  rw [← hi2] at pre38
  obtain ⟨_, _, ⟨T39, L39, k39, n39⟩, -, X39, ⟨Lc39, hQ39, l39, y39, z39⟩, st39⟩ := Jvm.LawKit.callS X37 hx (y := (⟨"com/example/kazalo/kazalo/records/EncodingFaultsIsUtf8PinLaw", "adv", "([BII)I"⟩ : MethodName)) hown (mvT hZ (hw _ (List.mem_of_getElem? (i := 13) rfl))) (mvT hZ (hw _ (List.mem_of_getElem? (i := 14) rfl))) (mvT hZ (hw _ (List.mem_of_getElem? (i := 15) rfl))) (mvT hZ (hw _ (List.mem_of_getElem? (i := 16) rfl))) (by decide) (backOf (W := 0) (rm4 l Z aw hw [] b1 i2 tt cs k1 h25 n0 Zz_29 Vcs (own_t8 htt huu hvv)) hZ (hw _ (List.mem_of_getElem? (i := 16) rfl)) (hw _ (List.mem_of_getElem? (i := 15) rfl)) (by decide) (by decide)) (g := (mkF m 164 #[.val (.long q0), .second, .val (.int p1), .val (.int p2), .val (.ref b1), .val (.int uu), .val (.int vv), .val (.int ff), .val (.int tt), .val (.int gg), .val (.int i2)] [(.int tt), (.int i2), (.ref b1)])) rfl (by rw [hml]; rfl) (argsL := [(.ref b1), (.int i2), (.int tt)]) (rest := []) (lenOf pd_rm0_2 rfl) rfl (by show 2 * 0 + _ ≤ _; exact Nat.le_of_eq rfl) (hb hby at_164) (fun _ _ => ⟨rfl, e37q, (by decide : 1 + 0 ≤ _), (by decide : 8 + 0 ≤ _)⟩)
  dsimp only [Pt.U, Pt.locs, Pt.cells, Pt.slots] at X39 l39 y39 z39 st39 hQ39
  subst l39 y39 z39
  obtain ⟨rfl, N39q, e39q⟩ := hQ39
  have N39 := Fr.app N37 N39q
  have pre40 : ∀ t, Steps p.tables e below (T39.setTop (mkF m 167 #[.val (.long q0), .second, .val (.int p1), .val (.int p2), .val (.ref b1), .val (.int uu), .val (.int vv), .val (.int ff), .val (.int tt), .val (.int gg), .val (.int i2)] [(.int (own_f4 cs i2 tt))])) t → Steps p.tables e below (s₁.setTop (entryFrame m #[(.long q0), (.int p1), (.int p2)] maxLocals)) t := fun t k => pre38 t (by
    show Steps p.tables e below (T37.setTop (mkF m 156 #[.val (.long q0), .second, .val (.int p1), .val (.int p2), .val (.ref b1), .val (.int uu), .val (.int vv), .val (.int ff), .val (.int tt), .val (.int gg), .val (.int i1)] [(.int i2)])) _
    refine XS.istore X37.here hx rfl (hb hby at_156) rfl (l' := #[.val (.long q0), .second, .val (.int p1), .val (.int p2), .val (.ref b1), .val (.int uu), .val (.int vv), .val (.int ff), .val (.int tt), .val (.int gg), .val (.int i2)]) rfl ?_
    show Steps p.tables e below (T37.setTop (mkF m 158 #[.val (.long q0), .second, .val (.int p1), .val (.int p2), .val (.ref b1), .val (.int uu), .val (.int vv), .val (.int ff), .val (.int tt), .val (.int gg), .val (.int i2)] [])) _
    refine XS.aload X37.here hx rfl (hb hby at_158) rfl rfl ?_
    show Steps p.tables e below (T37.setTop (mkF m 160 #[.val (.long q0), .second, .val (.int p1), .val (.int p2), .val (.ref b1), .val (.int uu), .val (.int vv), .val (.int ff), .val (.int tt), .val (.int gg), .val (.int i2)] [(.ref b1)])) _
    refine XS.iload X37.here hx rfl (hb hby at_160) rfl ?_
    show Steps p.tables e below (T37.setTop (mkF m 162 #[.val (.long q0), .second, .val (.int p1), .val (.int p2), .val (.ref b1), .val (.int uu), .val (.int vv), .val (.int ff), .val (.int tt), .val (.int gg), .val (.int i2)] [(.int i2), (.ref b1)])) _
    refine XS.iload X37.here hx rfl (hb hby at_162) rfl ?_
    show Steps p.tables e below (T37.setTop (mkF m 164 #[.val (.long q0), .second, .val (.int p1), .val (.int p2), .val (.ref b1), .val (.int uu), .val (.int vv), .val (.int ff), .val (.int tt), .val (.int gg), .val (.int i2)] [(.int tt), (.int i2), (.ref b1)])) _
    refine st39 _ ?_
    exact k)
  obtain ⟨i3, hi3⟩ : ∃ z : Int32, z = (own_f4 cs i2 tt) := ⟨_, rfl⟩
  rw [← hi3] at pre40
  obtain ⟨_, _, ⟨T41, L41, k41, n41⟩, -, X41, ⟨Lc41, hQ41, l41, y41, z41⟩, st41⟩ := Jvm.LawKit.callS X39 hx (y := (⟨"com/example/kazalo/kazalo/records/EncodingFaultsIsUtf8PinLaw", "adv", "([BII)I"⟩ : MethodName)) hown (mvT hZ (hw _ (List.mem_of_getElem? (i := 13) rfl))) (mvT hZ (hw _ (List.mem_of_getElem? (i := 14) rfl))) (mvT hZ (hw _ (List.mem_of_getElem? (i := 15) rfl))) (mvT hZ (hw _ (List.mem_of_getElem? (i := 16) rfl))) (by decide) (backOf (W := 0) (rm4 l Z aw hw [] b1 i3 tt cs k1 h25 n0 Zz_29 Vcs (own_t8 htt huu hvv)) hZ (hw _ (List.mem_of_getElem? (i := 16) rfl)) (hw _ (List.mem_of_getElem? (i := 15) rfl)) (by decide) (by decide)) (g := (mkF m 175 #[.val (.long q0), .second, .val (.int p1), .val (.int p2), .val (.ref b1), .val (.int uu), .val (.int vv), .val (.int ff), .val (.int tt), .val (.int gg), .val (.int i3)] [(.int tt), (.int i3), (.ref b1)])) rfl (by rw [hml]; rfl) (argsL := [(.ref b1), (.int i3), (.int tt)]) (rest := []) (lenOf pd_rm0_2 rfl) rfl (by show 2 * 0 + _ ≤ _; exact Nat.le_of_eq rfl) (hb hby at_175) (fun _ _ => ⟨rfl, e39q, (by decide : 1 + 0 ≤ _), (by decide : 8 + 0 ≤ _)⟩)
  dsimp only [Pt.U, Pt.locs, Pt.cells, Pt.slots] at X41 l41 y41 z41 st41 hQ41
  subst l41 y41 z41
  obtain ⟨rfl, N41q, e41q⟩ := hQ41
  have N41 := Fr.app N39 N41q
  have pre42 : ∀ t, Steps p.tables e below (T41.setTop (mkF m 178 #[.val (.long q0), .second, .val (.int p1), .val (.int p2), .val (.ref b1), .val (.int uu), .val (.int vv), .val (.int ff), .val (.int tt), .val (.int gg), .val (.int i3)] [(.int (own_f4 cs i3 tt))])) t → Steps p.tables e below (s₁.setTop (entryFrame m #[(.long q0), (.int p1), (.int p2)] maxLocals)) t := fun t k => pre40 t (by
    show Steps p.tables e below (T39.setTop (mkF m 167 #[.val (.long q0), .second, .val (.int p1), .val (.int p2), .val (.ref b1), .val (.int uu), .val (.int vv), .val (.int ff), .val (.int tt), .val (.int gg), .val (.int i2)] [(.int i3)])) _
    refine XS.istore X39.here hx rfl (hb hby at_167) rfl (l' := #[.val (.long q0), .second, .val (.int p1), .val (.int p2), .val (.ref b1), .val (.int uu), .val (.int vv), .val (.int ff), .val (.int tt), .val (.int gg), .val (.int i3)]) rfl ?_
    show Steps p.tables e below (T39.setTop (mkF m 169 #[.val (.long q0), .second, .val (.int p1), .val (.int p2), .val (.ref b1), .val (.int uu), .val (.int vv), .val (.int ff), .val (.int tt), .val (.int gg), .val (.int i3)] [])) _
    refine XS.aload X39.here hx rfl (hb hby at_169) rfl rfl ?_
    show Steps p.tables e below (T39.setTop (mkF m 171 #[.val (.long q0), .second, .val (.int p1), .val (.int p2), .val (.ref b1), .val (.int uu), .val (.int vv), .val (.int ff), .val (.int tt), .val (.int gg), .val (.int i3)] [(.ref b1)])) _
    refine XS.iload X39.here hx rfl (hb hby at_171) rfl ?_
    show Steps p.tables e below (T39.setTop (mkF m 173 #[.val (.long q0), .second, .val (.int p1), .val (.int p2), .val (.ref b1), .val (.int uu), .val (.int vv), .val (.int ff), .val (.int tt), .val (.int gg), .val (.int i3)] [(.int i3), (.ref b1)])) _
    refine XS.iload X39.here hx rfl (hb hby at_173) rfl ?_
    show Steps p.tables e below (T39.setTop (mkF m 175 #[.val (.long q0), .second, .val (.int p1), .val (.int p2), .val (.ref b1), .val (.int uu), .val (.int vv), .val (.int ff), .val (.int tt), .val (.int gg), .val (.int i3)] [(.int tt), (.int i3), (.ref b1)])) _
    refine st41 _ ?_
    exact k)
  obtain ⟨i4, hi4⟩ : ∃ z : Int32, z = (own_f4 cs i3 tt) := ⟨_, rfl⟩
  rw [← hi4] at pre42
  obtain ⟨_, _, ⟨T43, L43, k43, n43⟩, -, X43, ⟨Lc43, hQ43, l43, y43, z43⟩, st43⟩ := Jvm.LawKit.callS X41 hx (y := (⟨"com/example/kazalo/kazalo/records/EncodingFaultsIsUtf8PinLaw", "adv", "([BII)I"⟩ : MethodName)) hown (mvT hZ (hw _ (List.mem_of_getElem? (i := 13) rfl))) (mvT hZ (hw _ (List.mem_of_getElem? (i := 14) rfl))) (mvT hZ (hw _ (List.mem_of_getElem? (i := 15) rfl))) (mvT hZ (hw _ (List.mem_of_getElem? (i := 16) rfl))) (by decide) (backOf (W := 0) (rm4 l Z aw hw [] b1 i4 tt cs k1 h25 n0 Zz_29 Vcs (own_t8 htt huu hvv)) hZ (hw _ (List.mem_of_getElem? (i := 16) rfl)) (hw _ (List.mem_of_getElem? (i := 15) rfl)) (by decide) (by decide)) (g := (mkF m 186 #[.val (.long q0), .second, .val (.int p1), .val (.int p2), .val (.ref b1), .val (.int uu), .val (.int vv), .val (.int ff), .val (.int tt), .val (.int gg), .val (.int i4)] [(.int tt), (.int i4), (.ref b1)])) rfl (by rw [hml]; rfl) (argsL := [(.ref b1), (.int i4), (.int tt)]) (rest := []) (lenOf pd_rm0_2 rfl) rfl (by show 2 * 0 + _ ≤ _; exact Nat.le_of_eq rfl) (hb hby at_186) (fun _ _ => ⟨rfl, e41q, (by decide : 1 + 0 ≤ _), (by decide : 8 + 0 ≤ _)⟩)
  dsimp only [Pt.U, Pt.locs, Pt.cells, Pt.slots] at X43 l43 y43 z43 st43 hQ43
  subst l43 y43 z43
  obtain ⟨rfl, N43q, e43q⟩ := hQ43
  have N43 := Fr.app N41 N43q
  have pre44 : ∀ t, Steps p.tables e below (T43.setTop (mkF m 189 #[.val (.long q0), .second, .val (.int p1), .val (.int p2), .val (.ref b1), .val (.int uu), .val (.int vv), .val (.int ff), .val (.int tt), .val (.int gg), .val (.int i4)] [(.int (own_f4 cs i4 tt))])) t → Steps p.tables e below (s₁.setTop (entryFrame m #[(.long q0), (.int p1), (.int p2)] maxLocals)) t := fun t k => pre42 t (by
    show Steps p.tables e below (T41.setTop (mkF m 178 #[.val (.long q0), .second, .val (.int p1), .val (.int p2), .val (.ref b1), .val (.int uu), .val (.int vv), .val (.int ff), .val (.int tt), .val (.int gg), .val (.int i3)] [(.int i4)])) _
    refine XS.istore X41.here hx rfl (hb hby at_178) rfl (l' := #[.val (.long q0), .second, .val (.int p1), .val (.int p2), .val (.ref b1), .val (.int uu), .val (.int vv), .val (.int ff), .val (.int tt), .val (.int gg), .val (.int i4)]) rfl ?_
    show Steps p.tables e below (T41.setTop (mkF m 180 #[.val (.long q0), .second, .val (.int p1), .val (.int p2), .val (.ref b1), .val (.int uu), .val (.int vv), .val (.int ff), .val (.int tt), .val (.int gg), .val (.int i4)] [])) _
    refine XS.aload X41.here hx rfl (hb hby at_180) rfl rfl ?_
    show Steps p.tables e below (T41.setTop (mkF m 182 #[.val (.long q0), .second, .val (.int p1), .val (.int p2), .val (.ref b1), .val (.int uu), .val (.int vv), .val (.int ff), .val (.int tt), .val (.int gg), .val (.int i4)] [(.ref b1)])) _
    refine XS.iload X41.here hx rfl (hb hby at_182) rfl ?_
    show Steps p.tables e below (T41.setTop (mkF m 184 #[.val (.long q0), .second, .val (.int p1), .val (.int p2), .val (.ref b1), .val (.int uu), .val (.int vv), .val (.int ff), .val (.int tt), .val (.int gg), .val (.int i4)] [(.int i4), (.ref b1)])) _
    refine XS.iload X41.here hx rfl (hb hby at_184) rfl ?_
    show Steps p.tables e below (T41.setTop (mkF m 186 #[.val (.long q0), .second, .val (.int p1), .val (.int p2), .val (.ref b1), .val (.int uu), .val (.int vv), .val (.int ff), .val (.int tt), .val (.int gg), .val (.int i4)] [(.int tt), (.int i4), (.ref b1)])) _
    refine st43 _ ?_
    exact k)
  obtain ⟨i5, hi5⟩ : ∃ z : Int32, z = (own_f4 cs i4 tt) := ⟨_, rfl⟩
  rw [← hi5] at pre44
  obtain ⟨_, _, ⟨T45, L45, k45, n45⟩, -, X45, ⟨Lc45, hQ45, l45, y45, z45⟩, st45⟩ := Jvm.LawKit.callS X43 hx (y := (⟨"com/example/kazalo/kazalo/records/EncodingFaultsIsUtf8PinLaw", "adv", "([BII)I"⟩ : MethodName)) hown (mvT hZ (hw _ (List.mem_of_getElem? (i := 13) rfl))) (mvT hZ (hw _ (List.mem_of_getElem? (i := 14) rfl))) (mvT hZ (hw _ (List.mem_of_getElem? (i := 15) rfl))) (mvT hZ (hw _ (List.mem_of_getElem? (i := 16) rfl))) (by decide) (backOf (W := 0) (rm4 l Z aw hw [] b1 i5 tt cs k1 h25 n0 Zz_29 Vcs (own_t8 htt huu hvv)) hZ (hw _ (List.mem_of_getElem? (i := 16) rfl)) (hw _ (List.mem_of_getElem? (i := 15) rfl)) (by decide) (by decide)) (g := (mkF m 197 #[.val (.long q0), .second, .val (.int p1), .val (.int p2), .val (.ref b1), .val (.int uu), .val (.int vv), .val (.int ff), .val (.int tt), .val (.int gg), .val (.int i5)] [(.int tt), (.int i5), (.ref b1)])) rfl (by rw [hml]; rfl) (argsL := [(.ref b1), (.int i5), (.int tt)]) (rest := []) (lenOf pd_rm0_2 rfl) rfl (by show 2 * 0 + _ ≤ _; exact Nat.le_of_eq rfl) (hb hby at_197) (fun _ _ => ⟨rfl, e43q, (by decide : 1 + 0 ≤ _), (by decide : 8 + 0 ≤ _)⟩)
  dsimp only [Pt.U, Pt.locs, Pt.cells, Pt.slots] at X45 l45 y45 z45 st45 hQ45
  subst l45 y45 z45
  obtain ⟨rfl, N45q, e45q⟩ := hQ45
  have N45 := Fr.app N43 N45q
  have pre46 : ∀ t, Steps p.tables e below (T45.setTop (mkF m 200 #[.val (.long q0), .second, .val (.int p1), .val (.int p2), .val (.ref b1), .val (.int uu), .val (.int vv), .val (.int ff), .val (.int tt), .val (.int gg), .val (.int i5)] [(.int (own_f4 cs i5 tt))])) t → Steps p.tables e below (s₁.setTop (entryFrame m #[(.long q0), (.int p1), (.int p2)] maxLocals)) t := fun t k => pre44 t (by
    show Steps p.tables e below (T43.setTop (mkF m 189 #[.val (.long q0), .second, .val (.int p1), .val (.int p2), .val (.ref b1), .val (.int uu), .val (.int vv), .val (.int ff), .val (.int tt), .val (.int gg), .val (.int i4)] [(.int i5)])) _
    refine XS.istore X43.here hx rfl (hb hby at_189) rfl (l' := #[.val (.long q0), .second, .val (.int p1), .val (.int p2), .val (.ref b1), .val (.int uu), .val (.int vv), .val (.int ff), .val (.int tt), .val (.int gg), .val (.int i5)]) rfl ?_
    show Steps p.tables e below (T43.setTop (mkF m 191 #[.val (.long q0), .second, .val (.int p1), .val (.int p2), .val (.ref b1), .val (.int uu), .val (.int vv), .val (.int ff), .val (.int tt), .val (.int gg), .val (.int i5)] [])) _
    refine XS.aload X43.here hx rfl (hb hby at_191) rfl rfl ?_
    show Steps p.tables e below (T43.setTop (mkF m 193 #[.val (.long q0), .second, .val (.int p1), .val (.int p2), .val (.ref b1), .val (.int uu), .val (.int vv), .val (.int ff), .val (.int tt), .val (.int gg), .val (.int i5)] [(.ref b1)])) _
    refine XS.iload X43.here hx rfl (hb hby at_193) rfl ?_
    show Steps p.tables e below (T43.setTop (mkF m 195 #[.val (.long q0), .second, .val (.int p1), .val (.int p2), .val (.ref b1), .val (.int uu), .val (.int vv), .val (.int ff), .val (.int tt), .val (.int gg), .val (.int i5)] [(.int i5), (.ref b1)])) _
    refine XS.iload X43.here hx rfl (hb hby at_195) rfl ?_
    show Steps p.tables e below (T43.setTop (mkF m 197 #[.val (.long q0), .second, .val (.int p1), .val (.int p2), .val (.ref b1), .val (.int uu), .val (.int vv), .val (.int ff), .val (.int tt), .val (.int gg), .val (.int i5)] [(.int tt), (.int i5), (.ref b1)])) _
    refine st45 _ ?_
    exact k)
  obtain ⟨i6, hi6⟩ : ∃ z : Int32, z = (own_f4 cs i5 tt) := ⟨_, rfl⟩
  rw [← hi6] at pre46
  obtain ⟨_, _, ⟨T47, L47, k47, n47⟩, -, X47, ⟨Lc47, hQ47, l47, y47, z47⟩, st47⟩ := Jvm.LawKit.callS X45 hx (y := (⟨"com/example/kazalo/kazalo/records/EncodingFaultsIsUtf8PinLaw", "adv", "([BII)I"⟩ : MethodName)) hown (mvT hZ (hw _ (List.mem_of_getElem? (i := 13) rfl))) (mvT hZ (hw _ (List.mem_of_getElem? (i := 14) rfl))) (mvT hZ (hw _ (List.mem_of_getElem? (i := 15) rfl))) (mvT hZ (hw _ (List.mem_of_getElem? (i := 16) rfl))) (by decide) (backOf (W := 0) (rm4 l Z aw hw [] b1 i6 tt cs k1 h25 n0 Zz_29 Vcs (own_t8 htt huu hvv)) hZ (hw _ (List.mem_of_getElem? (i := 16) rfl)) (hw _ (List.mem_of_getElem? (i := 15) rfl)) (by decide) (by decide)) (g := (mkF m 208 #[.val (.long q0), .second, .val (.int p1), .val (.int p2), .val (.ref b1), .val (.int uu), .val (.int vv), .val (.int ff), .val (.int tt), .val (.int gg), .val (.int i6)] [(.int tt), (.int i6), (.ref b1)])) rfl (by rw [hml]; rfl) (argsL := [(.ref b1), (.int i6), (.int tt)]) (rest := []) (lenOf pd_rm0_2 rfl) rfl (by show 2 * 0 + _ ≤ _; exact Nat.le_of_eq rfl) (hb hby at_208) (fun _ _ => ⟨rfl, e45q, (by decide : 1 + 0 ≤ _), (by decide : 8 + 0 ≤ _)⟩)
  dsimp only [Pt.U, Pt.locs, Pt.cells, Pt.slots] at X47 l47 y47 z47 st47 hQ47
  subst l47 y47 z47
  obtain ⟨rfl, N47q, e47q⟩ := hQ47
  have N47 := Fr.app N45 N47q
  have pre48 : ∀ t, Steps p.tables e below (T47.setTop (mkF m 211 #[.val (.long q0), .second, .val (.int p1), .val (.int p2), .val (.ref b1), .val (.int uu), .val (.int vv), .val (.int ff), .val (.int tt), .val (.int gg), .val (.int i6)] [(.int (own_f4 cs i6 tt))])) t → Steps p.tables e below (s₁.setTop (entryFrame m #[(.long q0), (.int p1), (.int p2)] maxLocals)) t := fun t k => pre46 t (by
    show Steps p.tables e below (T45.setTop (mkF m 200 #[.val (.long q0), .second, .val (.int p1), .val (.int p2), .val (.ref b1), .val (.int uu), .val (.int vv), .val (.int ff), .val (.int tt), .val (.int gg), .val (.int i5)] [(.int i6)])) _
    refine XS.istore X45.here hx rfl (hb hby at_200) rfl (l' := #[.val (.long q0), .second, .val (.int p1), .val (.int p2), .val (.ref b1), .val (.int uu), .val (.int vv), .val (.int ff), .val (.int tt), .val (.int gg), .val (.int i6)]) rfl ?_
    show Steps p.tables e below (T45.setTop (mkF m 202 #[.val (.long q0), .second, .val (.int p1), .val (.int p2), .val (.ref b1), .val (.int uu), .val (.int vv), .val (.int ff), .val (.int tt), .val (.int gg), .val (.int i6)] [])) _
    refine XS.aload X45.here hx rfl (hb hby at_202) rfl rfl ?_
    show Steps p.tables e below (T45.setTop (mkF m 204 #[.val (.long q0), .second, .val (.int p1), .val (.int p2), .val (.ref b1), .val (.int uu), .val (.int vv), .val (.int ff), .val (.int tt), .val (.int gg), .val (.int i6)] [(.ref b1)])) _
    refine XS.iload X45.here hx rfl (hb hby at_204) rfl ?_
    show Steps p.tables e below (T45.setTop (mkF m 206 #[.val (.long q0), .second, .val (.int p1), .val (.int p2), .val (.ref b1), .val (.int uu), .val (.int vv), .val (.int ff), .val (.int tt), .val (.int gg), .val (.int i6)] [(.int i6), (.ref b1)])) _
    refine XS.iload X45.here hx rfl (hb hby at_206) rfl ?_
    show Steps p.tables e below (T45.setTop (mkF m 208 #[.val (.long q0), .second, .val (.int p1), .val (.int p2), .val (.ref b1), .val (.int uu), .val (.int vv), .val (.int ff), .val (.int tt), .val (.int gg), .val (.int i6)] [(.int tt), (.int i6), (.ref b1)])) _
    refine st47 _ ?_
    exact k)
  obtain ⟨i7, hi7⟩ : ∃ z : Int32, z = (own_f4 cs i6 tt) := ⟨_, rfl⟩
  rw [← hi7] at pre48
  obtain ⟨_, _, ⟨T49, L49, k49, n49⟩, -, X49, ⟨Lc49, hQ49, l49, y49, z49⟩, st49⟩ := Jvm.LawKit.callS X47 hx (y := (⟨"com/example/kazalo/kazalo/records/EncodingFaultsIsUtf8PinLaw", "adv", "([BII)I"⟩ : MethodName)) hown (mvT hZ (hw _ (List.mem_of_getElem? (i := 13) rfl))) (mvT hZ (hw _ (List.mem_of_getElem? (i := 14) rfl))) (mvT hZ (hw _ (List.mem_of_getElem? (i := 15) rfl))) (mvT hZ (hw _ (List.mem_of_getElem? (i := 16) rfl))) (by decide) (backOf (W := 0) (rm4 l Z aw hw [] b1 i7 tt cs k1 h25 n0 Zz_29 Vcs (own_t8 htt huu hvv)) hZ (hw _ (List.mem_of_getElem? (i := 16) rfl)) (hw _ (List.mem_of_getElem? (i := 15) rfl)) (by decide) (by decide)) (g := (mkF m 219 #[.val (.long q0), .second, .val (.int p1), .val (.int p2), .val (.ref b1), .val (.int uu), .val (.int vv), .val (.int ff), .val (.int tt), .val (.int gg), .val (.int i7)] [(.int tt), (.int i7), (.ref b1)])) rfl (by rw [hml]; rfl) (argsL := [(.ref b1), (.int i7), (.int tt)]) (rest := []) (lenOf pd_rm0_2 rfl) rfl (by show 2 * 0 + _ ≤ _; exact Nat.le_of_eq rfl) (hb hby at_219) (fun _ _ => ⟨rfl, e47q, (by decide : 1 + 0 ≤ _), (by decide : 8 + 0 ≤ _)⟩)
  dsimp only [Pt.U, Pt.locs, Pt.cells, Pt.slots] at X49 l49 y49 z49 st49 hQ49
  subst l49 y49 z49
  obtain ⟨rfl, N49q, e49q⟩ := hQ49
  have N49 := Fr.app N47 N49q
  have pre50 : ∀ t, Steps p.tables e below (T49.setTop (mkF m 222 #[.val (.long q0), .second, .val (.int p1), .val (.int p2), .val (.ref b1), .val (.int uu), .val (.int vv), .val (.int ff), .val (.int tt), .val (.int gg), .val (.int i7)] [(.int (own_f4 cs i7 tt))])) t → Steps p.tables e below (s₁.setTop (entryFrame m #[(.long q0), (.int p1), (.int p2)] maxLocals)) t := fun t k => pre48 t (by
    show Steps p.tables e below (T47.setTop (mkF m 211 #[.val (.long q0), .second, .val (.int p1), .val (.int p2), .val (.ref b1), .val (.int uu), .val (.int vv), .val (.int ff), .val (.int tt), .val (.int gg), .val (.int i6)] [(.int i7)])) _
    refine XS.istore X47.here hx rfl (hb hby at_211) rfl (l' := #[.val (.long q0), .second, .val (.int p1), .val (.int p2), .val (.ref b1), .val (.int uu), .val (.int vv), .val (.int ff), .val (.int tt), .val (.int gg), .val (.int i7)]) rfl ?_
    show Steps p.tables e below (T47.setTop (mkF m 213 #[.val (.long q0), .second, .val (.int p1), .val (.int p2), .val (.ref b1), .val (.int uu), .val (.int vv), .val (.int ff), .val (.int tt), .val (.int gg), .val (.int i7)] [])) _
    refine XS.aload X47.here hx rfl (hb hby at_213) rfl rfl ?_
    show Steps p.tables e below (T47.setTop (mkF m 215 #[.val (.long q0), .second, .val (.int p1), .val (.int p2), .val (.ref b1), .val (.int uu), .val (.int vv), .val (.int ff), .val (.int tt), .val (.int gg), .val (.int i7)] [(.ref b1)])) _
    refine XS.iload X47.here hx rfl (hb hby at_215) rfl ?_
    show Steps p.tables e below (T47.setTop (mkF m 217 #[.val (.long q0), .second, .val (.int p1), .val (.int p2), .val (.ref b1), .val (.int uu), .val (.int vv), .val (.int ff), .val (.int tt), .val (.int gg), .val (.int i7)] [(.int i7), (.ref b1)])) _
    refine XS.iload X47.here hx rfl (hb hby at_217) rfl ?_
    show Steps p.tables e below (T47.setTop (mkF m 219 #[.val (.long q0), .second, .val (.int p1), .val (.int p2), .val (.ref b1), .val (.int uu), .val (.int vv), .val (.int ff), .val (.int tt), .val (.int gg), .val (.int i7)] [(.int tt), (.int i7), (.ref b1)])) _
    refine st49 _ ?_
    exact k)
  obtain ⟨i8, hi8⟩ : ∃ z : Int32, z = (own_f4 cs i7 tt) := ⟨_, rfl⟩
  rw [← hi8] at pre50
  have pre51 : ∀ t, Steps p.tables e below (T49.setTop (mkF m 230 #[.val (.long q0), .second, .val (.int p1), .val (.int p2), .val (.ref b1), .val (.int uu), .val (.int vv), .val (.int ff), .val (.int tt), .val (.int gg), .val (.int i8)] [(.int tt), (.int i8), (.int gg)])) t → Steps p.tables e below (s₁.setTop (entryFrame m #[(.long q0), (.int p1), (.int p2)] maxLocals)) t := fun t k => pre50 t (by
    show Steps p.tables e below (T49.setTop (mkF m 222 #[.val (.long q0), .second, .val (.int p1), .val (.int p2), .val (.ref b1), .val (.int uu), .val (.int vv), .val (.int ff), .val (.int tt), .val (.int gg), .val (.int i7)] [(.int i8)])) _
    refine XS.istore X49.here hx rfl (hb hby at_222) rfl (l' := #[.val (.long q0), .second, .val (.int p1), .val (.int p2), .val (.ref b1), .val (.int uu), .val (.int vv), .val (.int ff), .val (.int tt), .val (.int gg), .val (.int i8)]) rfl ?_
    show Steps p.tables e below (T49.setTop (mkF m 224 #[.val (.long q0), .second, .val (.int p1), .val (.int p2), .val (.ref b1), .val (.int uu), .val (.int vv), .val (.int ff), .val (.int tt), .val (.int gg), .val (.int i8)] [])) _
    refine XS.iload X49.here hx rfl (hb hby at_224) rfl ?_
    show Steps p.tables e below (T49.setTop (mkF m 226 #[.val (.long q0), .second, .val (.int p1), .val (.int p2), .val (.ref b1), .val (.int uu), .val (.int vv), .val (.int ff), .val (.int tt), .val (.int gg), .val (.int i8)] [(.int gg)])) _
    refine XS.iload X49.here hx rfl (hb hby at_226) rfl ?_
    show Steps p.tables e below (T49.setTop (mkF m 228 #[.val (.long q0), .second, .val (.int p1), .val (.int p2), .val (.ref b1), .val (.int uu), .val (.int vv), .val (.int ff), .val (.int tt), .val (.int gg), .val (.int i8)] [(.int i8), (.int gg)])) _
    refine XS.iload X49.here hx rfl (hb hby at_228) rfl ?_
    exact k)
  by_cases hc230_52 : i8 = tt
  · obtain ⟨fs, hr, hrun, hended, hW, hsame⟩ := X49.leave (v := some (.int (1 : Int32))) (fun h => by rw [Bd.returns] at h; cases h)
    refine ⟨_, _, pre51 _ ?_, hrun, hended, _, _, rfl, ?_, ⟨_, rfl⟩, hW, hsame.mono (by decide) (by decide)⟩
    · show Steps p.tables e below (T49.setTop (mkF m 230 #[.val (.long q0), .second, .val (.int p1), .val (.int p2), .val (.ref b1), .val (.int uu), .val (.int vv), .val (.int ff), .val (.int tt), .val (.int gg), .val (.int i8)] [(.int tt), (.int i8), (.int gg)])) _
      refine XS.icmpNo X49.here hx rfl (hb hby at_230) rfl (teq hc230_52).2 ?_
      show Steps p.tables e below (T49.setTop (mkF m 233 #[.val (.long q0), .second, .val (.int p1), .val (.int p2), .val (.ref b1), .val (.int uu), .val (.int vv), .val (.int ff), .val (.int tt), .val (.int gg), .val (.int i8)] [(.int gg)])) _
      refine XS.iconst X49.here hx rfl (hb hby at_233) ?_
      show Steps p.tables e below (T49.setTop (mkF m 234 #[.val (.long q0), .second, .val (.int p1), .val (.int p2), .val (.ref b1), .val (.int uu), .val (.int vv), .val (.int ff), .val (.int tt), .val (.int gg), .val (.int i8)] [(.int (1 : Int32)), (.int gg)])) _
      refine XS.goto X49.here hx rfl (pc0 := 234) (pc' := 238) rfl (hb hby at_234) (by decide) (by decide) ?_
      show Steps p.tables e below (T49.setTop (mkF m 238 #[.val (.long q0), .second, .val (.int p1), .val (.int p2), .val (.ref b1), .val (.int uu), .val (.int vv), .val (.int ff), .val (.int tt), .val (.int gg), .val (.int i8)] [(.int (1 : Int32)), (.int gg)])) _
      refine XS.icmpNo X49.here hx rfl (hb hby at_238) rfl (teq (own_yes hok hff htt huu hvv hgg hi1 hi2 hi3 hi4 hi5 hi6 hi7 hi8 hc230_52 : gg = (1 : Int32))).2 ?_
      show Steps p.tables e below (T49.setTop (mkF m 241 #[.val (.long q0), .second, .val (.int p1), .val (.int p2), .val (.ref b1), .val (.int uu), .val (.int vv), .val (.int ff), .val (.int tt), .val (.int gg), .val (.int i8)] [])) _
      refine XS.iconst X49.here hx rfl (hb hby at_241) ?_
      show Steps p.tables e below (T49.setTop (mkF m 242 #[.val (.long q0), .second, .val (.int p1), .val (.int p2), .val (.ref b1), .val (.int uu), .val (.int vv), .val (.int ff), .val (.int tt), .val (.int gg), .val (.int i8)] [(.int (1 : Int32))])) _
      refine XS.goto X49.here hx rfl (pc0 := 242) (pc' := 246) rfl (hb hby at_242) (by decide) (by decide) ?_
      show Steps p.tables e below (T49.setTop (mkF m 246 #[.val (.long q0), .second, .val (.int p1), .val (.int p2), .val (.ref b1), .val (.int uu), .val (.int vv), .val (.int ff), .val (.int tt), .val (.int gg), .val (.int i8)] [(.int (1 : Int32))])) _
      exact retN X49 hx (t := .boolean) Bd.returns (by simp) (hb hby at_246) hr
    · show rm0Q Z q0 p1 p2 h0 n0 _ T49.heap _
      rw [e49q]
      exact ⟨rfl, N49⟩
  · obtain ⟨fs, hr, hrun, hended, hW, hsame⟩ := X49.leave (v := some (.int (1 : Int32))) (fun h => by rw [Bd.returns] at h; cases h)
    refine ⟨_, _, pre51 _ ?_, hrun, hended, _, _, rfl, ?_, ⟨_, rfl⟩, hW, hsame.mono (by decide) (by decide)⟩
    · show Steps p.tables e below (T49.setTop (mkF m 230 #[.val (.long q0), .second, .val (.int p1), .val (.int p2), .val (.ref b1), .val (.int uu), .val (.int vv), .val (.int ff), .val (.int tt), .val (.int gg), .val (.int i8)] [(.int tt), (.int i8), (.int gg)])) _
      refine XS.icmpYes X49.here hx rfl (pc0 := 230) (pc' := 237) rfl (hb hby at_230) rfl (feq hc230_52).2 (by decide) (by decide) ?_
      show Steps p.tables e below (T49.setTop (mkF m 237 #[.val (.long q0), .second, .val (.int p1), .val (.int p2), .val (.ref b1), .val (.int uu), .val (.int vv), .val (.int ff), .val (.int tt), .val (.int gg), .val (.int i8)] [(.int gg)])) _
      refine XS.iconst X49.here hx rfl (hb hby at_237) ?_
      show Steps p.tables e below (T49.setTop (mkF m 238 #[.val (.long q0), .second, .val (.int p1), .val (.int p2), .val (.ref b1), .val (.int uu), .val (.int vv), .val (.int ff), .val (.int tt), .val (.int gg), .val (.int i8)] [(.int (0 : Int32)), (.int gg)])) _
      refine XS.icmpNo X49.here hx rfl (hb hby at_238) rfl (teq (own_no hok hff htt huu hvv hgg hi1 hi2 hi3 hi4 hi5 hi6 hi7 hi8 hc230_52 : gg = (0 : Int32))).2 ?_
      show Steps p.tables e below (T49.setTop (mkF m 241 #[.val (.long q0), .second, .val (.int p1), .val (.int p2), .val (.ref b1), .val (.int uu), .val (.int vv), .val (.int ff), .val (.int tt), .val (.int gg), .val (.int i8)] [])) _
      refine XS.iconst X49.here hx rfl (hb hby at_241) ?_
      show Steps p.tables e below (T49.setTop (mkF m 242 #[.val (.long q0), .second, .val (.int p1), .val (.int p2), .val (.ref b1), .val (.int uu), .val (.int vv), .val (.int ff), .val (.int tt), .val (.int gg), .val (.int i8)] [(.int (1 : Int32))])) _
      refine XS.goto X49.here hx rfl (pc0 := 242) (pc' := 246) rfl (hb hby at_242) (by decide) (by decide) ?_
      show Steps p.tables e below (T49.setTop (mkF m 246 #[.val (.long q0), .second, .val (.int p1), .val (.int p2), .val (.ref b1), .val (.int uu), .val (.int vv), .val (.int ff), .val (.int tt), .val (.int gg), .val (.int i8)] [(.int (1 : Int32))])) _
      exact retN X49 hx (t := .boolean) Bd.returns (by simp) (hb hby at_246) hr
    · show rm0Q Z q0 p1 p2 h0 n0 _ T49.heap _
      rw [e49q]
      exact ⟨rfl, N49⟩
set_option maxRecDepth 65536 in
set_option maxHeartbeats 40000000 in
theorem comes_1 {Post : Tables → Env → Array Value → State → Outcome → State → Prop} (hpost : ∀ tb e args s v u, (limb_1_1.after args s (.returned v) u = true ∧ limb_1_2.after args s (.returned v) u = true ∧ True) → FrameEnd s (.returned v) u (Jvm.fieldLocs frame_1_writes args s ++ Jvm.arrayLocs frame_1_arrays args s ++ Jvm.staticLocs frame_1_statics s) 16 128 → Post tb e args s (.returned v) u) :
    ArmFor flags0 classFile x code maxLocals ret World_1 tables_1 room_1 Calls_1 rest_1 Pre_1 Post := by
  intro l hfl _ _ p e ha hc hk s m args below hf hA hF happ hP
  obtain ⟨hcalls, hrest, hpre⟩ := hP
  obtain ⟨-, -, -, hnamed, -, -, -, hat⟩ := (Spec.applies_iff hf).mp happ
  obtain ⟨hg, hn⟩ := and_e (Cond.before_iff.mp (show (Jvm.Cond.and given_1 narrow_1).before args s = true from hpre))
  obtain ⟨g1, g2⟩ := and_e hg
  obtain ⟨g3, g4⟩ := and_e g2
  obtain ⟨g5, g6⟩ := and_e g4
  obtain ⟨w0, w1, w2, rfl⟩ : ∃ w0 w1 w2 : Value, args = #[w0, w1, w2] := by
    have hs : args.size = 3 := by simpa [Cond.value, given_1] using g1
    obtain ⟨L⟩ := args
    match L, hs with
    | [w0, w1, w2], _ => exact ⟨w0, w1, w2, rfl⟩
  have hw := fun d (hd : d ∈ tables_1) => atoms_spec (ws := Jvm.Cond.code x code maxLocals ret :: tables_1) hat d (List.mem_cons_of_mem _ hd)
  have hfit : Fit s := fun {y c} hc i hi => by
    obtain ⟨ha, rfl⟩ := Array.getElem?_eq_some_iff.mp hc
    have q := List.all_eq_true.mp ((Array.all_eq_true_iff_forall_mem.mp hF) _ (Array.getElem_mem ha)) i (List.mem_range.mpr hi)
    simpa [Array.getElem?_eq_getElem hi] using q
  obtain ⟨i0, ei0⟩ := isL_v g3
  obtain rfl : w0 = (.long i0) := Option.some.inj ei0
  obtain ⟨i1, ei1⟩ := is_v g5
  obtain rfl : w1 = (.int i1) := Option.some.inj ei1
  obtain ⟨i2, ei2⟩ := is_v g6
  obtain rfl : w2 = (.int i2) := Option.some.inj ei2
  obtain ⟨n, o, h1, h2, h3, _, L, rfl, ⟨rfl, N⟩, hq⟩ := rm0 l s _ hw tables_1 i0 i1 i2 s.heap s.heap.size (Nat.le_refl _) p e ha hc hk s m _ below hf ((Spec.applies_iff_loose hf).mp happ).1 ⟨rfl, State.Warmed39.refl s, rfl⟩ trivial
  refine ⟨n, _, h1, h2, h3, hpost _ _ _ _ _ _ ⟨Cond.after_iff.mpr rfl, Cond.after_iff.mpr (eq_i res_at (Term.int_eval (1)) rfl), trivial⟩ ⟨hq.1, hq.2.1, (hq.2.2.sift fun y hy => Or.inr (N y hy)).mono (by decide) (by decide)⟩⟩
theorem main_1_1 : Claimed_1_1 := comes_1 fun _ _ _ _ _ _ h hF => ⟨h.1, hF⟩
theorem main_1_2 : Claimed_1_2 := comes_1 fun _ _ _ _ _ _ h hF => ⟨h.2.1, hF⟩
end Jvm.Pilot.@@N@@
namespace Jvm.Pilot.@@N@@
open Jvm Jvm.ClassFile Sem Op Lib Jvm.Free Jvm.Stand Jvm.Pilot.@@N@@.Jvm.D
/-! MADE BY PROGRAM (witnessworld.py) out of the Statement's table words and the real class files: 10 classes; the members and pool entries that the words name. The judged class is class 1, her method 1. -/
namespace start1
open Jvm.ClassFile
def u (s : String) : CpInfo := .utf8 (stringToUtf16 s)
/-- a pool by its gaps: so many unusable entries, then the entry; so many at the end -/
def gap : Nat → List CpInfo → List CpInfo
  | 0, r => r
  | n + 1, r => .unusable :: gap n r
def poolList (es : List (Nat × CpInfo)) (last : Nat) : List CpInfo := es.foldr (fun e r => gap e.1 (e.2 :: r)) (gap last [])
def pool (es : List (Nat × CpInfo)) (last : Nat) : Array CpInfo := ⟨poolList es last⟩
def fileOf (pool : Array CpInfo) (this : Nat) (attrs : Array Attribute := #[]) (ms : Array MethodInfo := #[]) (fl : Nat := 33) (sup : Nat := 0) (ifs : Array Nat := #[]) (fds : Array FieldInfo := #[]) : ClassFile where
  minorVersion := 0
  majorVersion := 65
  constantPool := pool
  accessFlags := fl
  thisClass := this
  superClass := sup
  interfaces := ifs
  fields := fds
  methods := ms
  attributes := attrs
def plain (name : String) (sup : Option ClassId) : Class where
  name := name
  kind := .ordinary
  loader := none
  accessFlags := 33
  super := sup
  interfaces := #[]
  cf := none
  fields := #[]
  methods := #[]
  instanceTypes := #[]
  staticTypes := #[]
  resolved := #[]
  callSites := []
  init := .initialized
  statics := none
  mirror := none

def pool0 : Array CpInfo := pool [(5, u "<init>"), (0, u "()V"), (1, .class_ 10), (1, u "java/lang/Object")] 113

def k0m0 : Method := { name := "<init>", desc := "()V", sig := { parameters := [], returnType := none }, accessFlags := 1, code := none }
/-- java/lang/Object -/
def k0 : Class := { plain "java/lang/Object" none with
  accessFlags := 33
  interfaces := #[]
  cf := some (fileOf pool0 8 #[] #[{ accessFlags := 1, nameIndex := 5, descriptorIndex := 6, attributes := #[] }] 33 0 #[] #[])
  fields := #[]
  methods := #[k0m0]
  instanceTypes := #[]
  staticTypes := #[]
  resolved := Array.replicate 124 none
  statics := none }

def pool1 : Array CpInfo := pool [(2, .class_ 4), (1, u "java/lang/Object"), (0, u "<init>"), (0, u "()V"), (0, .integer 2147483647), (0, .methodref 9 10), (0, .class_ 11), (0, .nameAndType 12 13), (0, u "java/lang/Math"), (0, u "min"), (0, u "(II)I"), (0, .methodref 9 15), (0, .nameAndType 16 13), (0, u "max"), (0, .methodref 18 19), (0, .class_ 20), (0, .nameAndType 21 22), (0, u "com/example/kazalo/kazalo/records/EncodingFaults"), (0, u "isUtf8"), (0, u "([BII)Z"), (0, .methodref 24 25), (0, .class_ 26), (0, .nameAndType 27 28), (0, u "com/example/kazalo/kazalo/records/EncodingFaultsIsUtf8PinLaw"), (0, u "adv"), (0, u "([BII)I"), (0, .methodref 24 30), (0, .nameAndType 31 28), (0, u "step"), (0, .integer 65536), (0, .integer 1114111), (0, .integer 55296), (0, .integer 57343), (2, u "law"), (0, u "(JII)Z")] 5

def k1m0 : Method := { name := "<init>", desc := "()V", sig := { parameters := [], returnType := none }, accessFlags := 1, code := none }
def k1c1 : Code := { maxStack := 5, maxLocals := 11, code := code, exceptionTable := #[], attributes := #[] }
def k1m1 : Method := { name := "law", desc := "(JII)Z", sig := { parameters := [.long, .int, .int], returnType := some .boolean }, accessFlags := 9, code := some k1c1 }
def k1c2 : Code := { maxStack := 3, maxLocals := 3, code := method_3_code, exceptionTable := #[], attributes := #[] }
def k1m2 : Method := { name := "adv", desc := "([BII)I", sig := { parameters := [(.array .byte), .int, .int], returnType := some .int }, accessFlags := 10, code := some k1c2 }
def k1c3 : Code := { maxStack := 3, maxLocals := 9, code := method_4_code, exceptionTable := #[], attributes := #[] }
def k1m3 : Method := { name := "step", desc := "([BII)I", sig := { parameters := [(.array .byte), .int, .int], returnType := some .int }, accessFlags := 10, code := some k1c3 }
/-- com/example/kazalo/kazalo/records/EncodingFaultsIsUtf8PinLaw -/
def k1 : Class := { plain "com/example/kazalo/kazalo/records/EncodingFaultsIsUtf8PinLaw" (some 0) with
  accessFlags := 49
  interfaces := #[]
  cf := some (fileOf pool1 24 #[] #[{ accessFlags := 1, nameIndex := 5, descriptorIndex := 6, attributes := #[] }, { accessFlags := 9, nameIndex := 38, descriptorIndex := 39, attributes := #[] }, { accessFlags := 10, nameIndex := 27, descriptorIndex := 28, attributes := #[] }, { accessFlags := 10, nameIndex := 31, descriptorIndex := 28, attributes := #[] }] 49 2 #[] #[])
  fields := #[]
  methods := #[k1m0, k1m1, k1m2, k1m3]
  instanceTypes := #[]
  staticTypes := #[]
  resolved := Array.replicate 45 none
  statics := none }

def pool2 : Array CpInfo := pool [(1, .class_ 2), (0, u "java/lang/Math"), (1, .class_ 6), (1, u "java/lang/Object"), (0, u "<init>"), (0, u "()V"), (89, .class_ 100), (1, u "java/lang/Math$RandomNumberGeneratorHolder"), (71, u "negativeZeroFloatBits"), (0, u "J"), (2, u "negativeZeroDoubleBits"), (21, u "max"), (2, u "min"), (43, u "$assertionsDisabled"), (0, u "Z"), (88, u "(II)I"), (2, u "twoToTheDoubleScaleDown"), (0, u "D"), (4, u "twoToTheDoubleScaleUp"), (9, u "E"), (3, u "PI"), (2, u "TAU"), (2, u "DEGREES_TO_RADIANS"), (0, u "RADIANS_TO_DEGREES")] 94

def k2m0 : Method := { name := "<init>", desc := "()V", sig := { parameters := [], returnType := none }, accessFlags := 2, code := none }
def k2c1 : Code := { maxStack := 2, maxLocals := 2, code := jdk_29_method_65_code, exceptionTable := #[], attributes := #[] }
def k2m1 : Method := { name := "max", desc := "(II)I", sig := { parameters := [.int, .int], returnType := some .int }, accessFlags := 9, code := some k2c1 }
def k2c2 : Code := { maxStack := 2, maxLocals := 2, code := jdk_29_method_69_code, exceptionTable := #[], attributes := #[] }
def k2m2 : Method := { name := "min", desc := "(II)I", sig := { parameters := [.int, .int], returnType := some .int }, accessFlags := 9, code := some k2c2 }
/-- java/lang/Math -/
def k2 : Class := { plain "java/lang/Math" (some 0) with
  accessFlags := 49
  interfaces := #[]
  cf := some (fileOf pool2 1 #[.nestMembers #[98]] #[{ accessFlags := 2, nameIndex := 7, descriptorIndex := 8, attributes := #[] }, { accessFlags := 9, nameIndex := 198, descriptorIndex := 335, attributes := #[] }, { accessFlags := 9, nameIndex := 201, descriptorIndex := 335, attributes := #[] }] 49 4 #[] #[{ accessFlags := 25, nameIndex := 354, descriptorIndex := 339, attributes := #[] }, { accessFlags := 25, nameIndex := 358, descriptorIndex := 339, attributes := #[] }, { accessFlags := 25, nameIndex := 361, descriptorIndex := 339, attributes := #[] }, { accessFlags := 26, nameIndex := 364, descriptorIndex := 339, attributes := #[] }, { accessFlags := 26, nameIndex := 365, descriptorIndex := 339, attributes := #[] }, { accessFlags := 26, nameIndex := 172, descriptorIndex := 173, attributes := #[] }, { accessFlags := 26, nameIndex := 176, descriptorIndex := 173, attributes := #[] }, { accessFlags := 8, nameIndex := 344, descriptorIndex := 339, attributes := #[] }, { accessFlags := 8, nameIndex := 338, descriptorIndex := 339, attributes := #[] }, { accessFlags := 4120, nameIndex := 245, descriptorIndex := 246, attributes := #[] }])
  fields := #[{ name := "E", type := .double, accessFlags := 25, slot := 0, constantValue := 0 }, { name := "PI", type := .double, accessFlags := 25, slot := 1, constantValue := 0 }, { name := "TAU", type := .double, accessFlags := 25, slot := 2, constantValue := 0 }, { name := "DEGREES_TO_RADIANS", type := .double, accessFlags := 26, slot := 3, constantValue := 0 }, { name := "RADIANS_TO_DEGREES", type := .double, accessFlags := 26, slot := 4, constantValue := 0 }, { name := "negativeZeroFloatBits", type := .long, accessFlags := 26, slot := 5, constantValue := 0 }, { name := "negativeZeroDoubleBits", type := .long, accessFlags := 26, slot := 6, constantValue := 0 }, { name := "twoToTheDoubleScaleUp", type := .double, accessFlags := 8, slot := 7, constantValue := 0 }, { name := "twoToTheDoubleScaleDown", type := .double, accessFlags := 8, slot := 8, constantValue := 0 }, { name := "$assertionsDisabled", type := .boolean, accessFlags := 4120, slot := 9, constantValue := 0 }]
  methods := #[k2m0, k2m1, k2m2]
  instanceTypes := #[]
  staticTypes := #[.double, .double, .double, .double, .double, .long, .long, .double, .double, .boolean]
  resolved := Array.replicate 460 none
  statics := none }

def pool3 : Array CpInfo := pool [(2, .class_ 4), (1, u "java/lang/Object"), (0, u "<init>"), (0, u "()V"), (4, .class_ 13), (1, u "com/example/kazalo/kazalo/records/EncodingFaults"), (0, u "tags"), (0, u "Ljava/util/List;"), (7, u "isUtf8"), (0, u "([BII)Z")] 80

def k3m0 : Method := { name := "<init>", desc := "()V", sig := { parameters := [], returnType := none }, accessFlags := 0, code := none }
def k3c1 : Code := { maxStack := 3, maxLocals := 11, code := prog_55_method_6_code, exceptionTable := #[], attributes := #[] }
def k3m1 : Method := { name := "isUtf8", desc := "([BII)Z", sig := { parameters := [(.array .byte), .int, .int], returnType := some .boolean }, accessFlags := 8, code := some k3c1 }
/-- com/example/kazalo/kazalo/records/EncodingFaults -/
def k3 : Class := { plain "com/example/kazalo/kazalo/records/EncodingFaults" (some 0) with
  accessFlags := 48
  interfaces := #[]
  cf := some (fileOf pool3 11 #[] #[{ accessFlags := 0, nameIndex := 5, descriptorIndex := 6, attributes := #[] }, { accessFlags := 8, nameIndex := 23, descriptorIndex := 24, attributes := #[] }] 48 2 #[] #[{ accessFlags := 18, nameIndex := 14, descriptorIndex := 15, attributes := #[] }])
  fields := #[{ name := "tags", type := (.object "java/util/List"), accessFlags := 18, slot := 0, constantValue := 0 }]
  methods := #[k3m0, k3m1]
  instanceTypes := #[(.object "java/util/List")]
  staticTypes := #[]
  resolved := Array.replicate 105 none
  statics := none }

def pool4 : Array CpInfo := pool [(1, u "java/lang/Cloneable"), (0, .class_ 1), (0, u "java/lang/Object"), (0, .class_ 3)] 3

/-- java/lang/Cloneable -/
def k4 : Class := { plain "java/lang/Cloneable" (some 0) with
  accessFlags := 1537
  interfaces := #[]
  cf := some (fileOf pool4 2 #[] #[] 1537 4 #[] #[])
  fields := #[]
  methods := #[]
  instanceTypes := #[]
  staticTypes := #[]
  resolved := Array.replicate 8 none
  statics := none }

def pool5 : Array CpInfo := pool [(1, u "java/io/Serializable"), (0, .class_ 1), (0, u "java/lang/Object"), (0, .class_ 3)] 3

/-- java/io/Serializable -/
def k5 : Class := { plain "java/io/Serializable" (some 0) with
  accessFlags := 1537
  interfaces := #[]
  cf := some (fileOf pool5 2 #[] #[] 1537 4 #[] #[])
  fields := #[]
  methods := #[]
  instanceTypes := #[]
  staticTypes := #[]
  resolved := Array.replicate 8 none
  statics := none }

/-- the primitive byte -/
def k6 : Class := { plain "byte" none with kind := .primitive 'B', accessFlags := 0x411 }
/-- [B -/
def k7 : Class := { plain "[B" (some 0) with kind := .array 6 .byte, interfaces := #[4, 5], accessFlags := 1041 }

/-- the primitive int -/
def k8 : Class := { plain "int" none with kind := .primitive 'I', accessFlags := 0x411 }
/-- [I -/
def k9 : Class := { plain "[I" (some 0) with kind := .array 8 .int, interfaces := #[4, 5], accessFlags := 1041 }

def heap : Heap := #[]
def classes : Array Class := #[k0, k1, k2, k3, k4, k5, k6, k7, k8, k9]
def interned : List (Array UInt16 × Addr) := []
def slotsUsed : Nat := 0
def theMethod : MethodId := ⟨1, 1⟩
def args0 : Array Value := #[.long 5, .int 3, .int 1]
def aboutOver (below : List Frame) : State where
  vm := { classes := classes, interned := interned.toArray }
  heap := heap
  slotsUsed := slotsUsed
  threads := #[{ frames := .invoking theMethod args0 :: below }]
def below0 : List Frame := [.native { method := ⟨0, 0⟩, args := #[] }]
def about1 : State := aboutOver below0
def p0 : Program := .bare "" "" ""
def e0 : Env := launch0.env 0 0 0
theorem w_frames : about1.frames = Frame.invoking theMethod args0 :: below0 := rfl
set_option maxRecDepth 65536 in
theorem w_args : argsFit about1.vm theMethod args0 = true := by decide +kernel
set_option maxRecDepth 65536 in
theorem w_heap : heapFits about1 = true := by decide +kernel
set_option maxRecDepth 65536 in
theorem w_runnable : about1.curStatus? = some .runnable := by decide +kernel
set_option maxRecDepth 65536 in
theorem w_alone : about1.alone = true := by decide +kernel
set_option maxRecDepth 65536 in
theorem w_named : about1.methodNamed? x = some theMethod := by decide +kernel
set_option maxRecDepth 65536 in
theorem w_hears : about1.hears theMethod below0 = true := by decide +kernel
set_option maxRecDepth 65536 in
theorem w_ripe : about1.ripe theMethod args0 below0 = true := by decide +kernel
theorem w_running : about1.status = .running := rfl
set_option maxRecDepth 65536 in
theorem w_room : about1.hasRoom e0.platform room_1 = true :=
  launch0.hasRoom_least _ room_1 (by decide +kernel) (by decide +kernel) (by decide +kernel) (by decide +kernel) (by decide +kernel) (by decide +kernel)
theorem allAtoms_all (ts : List Jvm.Cond) (a : Array Jvm.Value) (st : Jvm.State) : (allAtoms ts).before a st = ts.all (fun c => c.before a st) := by
  induction ts with
  | nil => rfl
  | cons c t ih =>
    show (Jvm.Cond.and c (allAtoms t)).before a st = _
    rw [Jvm.Cond.before_and, ih, List.all_cons]
def words1 : List Jvm.Cond := Jvm.Cond.code x code maxLocals ret :: tables_1
/-- a 'code' word, met by the world's own term for the bytes: nothing is compared byte by byte -/
theorem code_word {y : MethodName} {bytes : ByteArray} {mx : Nat} {rt : Option FieldType} {a : Array Value} {s : State} {m : MethodId} {meth : Method} {c : Code} (h1 : s.methodNamed? y = some m) (h2 : s.vm.method? m = some meth) (h3 : meth.code = some c) (h4 : c.code = bytes)
    (h5 : (c.maxLocals == mx && c.exceptionTable.isEmpty && decide (c.maxStack ≤ mostOperands) && decide (meth.sig.returnType = rt) && !meth.locks && decide (parseMethodDescriptor y.desc = some meth.sig)) = true) : (Jvm.Cond.code y bytes mx rt).before a s = true := by
  simp only [Bool.and_eq_true, beq_iff_eq, Bool.not_eq_true', decide_eq_true_eq] at h5
  obtain ⟨⟨⟨⟨⟨g1, g2⟩, g3⟩, g4⟩, g5⟩, g6⟩ := h5
  simp [Cond.before, Cond.holds, Cond.value, h1, h2, h3, h4, g1, g2, g3, g4, g5, g6]
def isCode : Jvm.Cond → Bool
  | .code _ _ _ _ => true
  | _ => false
theorem all_split {L : List Jvm.Cond} {P : Jvm.Cond → Bool} (h1 : L.all (fun c => isCode c || P c) = true) (h2 : ∀ c ∈ L.filter isCode, P c = true) : L.all P = true := by
  refine List.all_eq_true.mpr fun c hc => ?_
  have h := List.all_eq_true.mp h1 c hc
  rcases Bool.eq_false_or_eq_true (isCode c) with hi | hi
  · exact h2 c (List.mem_filter.mpr ⟨hc, hi⟩)
  · simpa [hi] using h
set_option maxRecDepth 65536 in
theorem w_c0 : (Jvm.Cond.code x code maxLocals ret).before args0 about1 = true := code_word (m := ⟨1, 1⟩) (meth := k1m1) (c := k1c1) (by decide +kernel) rfl rfl rfl (by decide +kernel)
set_option maxRecDepth 65536 in
theorem w_c1 : (Jvm.Cond.code ({ cls := "java/lang/Math", name := "min", desc := "(II)I" } : Jvm.MethodName) jdk_29_method_69_code (2 : Nat) (Option.some Jvm.ClassFile.FieldType.int)).before args0 about1 = true := code_word (m := ⟨2, 2⟩) (meth := k2m2) (c := k2c2) (by decide +kernel) rfl rfl rfl (by decide +kernel)
set_option maxRecDepth 65536 in
theorem w_c2 : (Jvm.Cond.code ({ cls := "java/lang/Math", name := "max", desc := "(II)I" } : Jvm.MethodName) jdk_29_method_65_code (2 : Nat) (Option.some Jvm.ClassFile.FieldType.int)).before args0 about1 = true := code_word (m := ⟨2, 1⟩) (meth := k2m1) (c := k2c1) (by decide +kernel) rfl rfl rfl (by decide +kernel)
set_option maxRecDepth 65536 in
theorem w_c3 : (Jvm.Cond.code ({ cls := "com/example/kazalo/kazalo/records/EncodingFaults", name := "isUtf8", desc := "([BII)Z" } : Jvm.MethodName) prog_55_method_6_code (11 : Nat) (Option.some Jvm.ClassFile.FieldType.boolean)).before args0 about1 = true := code_word (m := ⟨3, 1⟩) (meth := k3m1) (c := k3c1) (by decide +kernel) rfl rfl rfl (by decide +kernel)
set_option maxRecDepth 65536 in
theorem w_c4 : (Jvm.Cond.code ({ cls := "com/example/kazalo/kazalo/records/EncodingFaultsIsUtf8PinLaw", name := "adv", desc := "([BII)I" } : Jvm.MethodName) method_3_code (3 : Nat) (Option.some Jvm.ClassFile.FieldType.int)).before args0 about1 = true := code_word (m := ⟨1, 2⟩) (meth := k1m2) (c := k1c2) (by decide +kernel) rfl rfl rfl (by decide +kernel)
set_option maxRecDepth 65536 in
theorem w_c5 : (Jvm.Cond.code ({ cls := "com/example/kazalo/kazalo/records/EncodingFaultsIsUtf8PinLaw", name := "step", desc := "([BII)I" } : Jvm.MethodName) method_4_code (9 : Nat) (Option.some Jvm.ClassFile.FieldType.int)).before args0 about1 = true := code_word (m := ⟨1, 3⟩) (meth := k1m3) (c := k1c3) (by decide +kernel) rfl rfl rfl (by decide +kernel)
def codes1 : List Jvm.Cond := [Jvm.Cond.code x code maxLocals ret, Jvm.Cond.code ({ cls := "java/lang/Math", name := "min", desc := "(II)I" } : Jvm.MethodName) jdk_29_method_69_code (2 : Nat) (Option.some Jvm.ClassFile.FieldType.int), Jvm.Cond.code ({ cls := "java/lang/Math", name := "max", desc := "(II)I" } : Jvm.MethodName) jdk_29_method_65_code (2 : Nat) (Option.some Jvm.ClassFile.FieldType.int), Jvm.Cond.code ({ cls := "com/example/kazalo/kazalo/records/EncodingFaults", name := "isUtf8", desc := "([BII)Z" } : Jvm.MethodName) prog_55_method_6_code (11 : Nat) (Option.some Jvm.ClassFile.FieldType.boolean), Jvm.Cond.code ({ cls := "com/example/kazalo/kazalo/records/EncodingFaultsIsUtf8PinLaw", name := "adv", desc := "([BII)I" } : Jvm.MethodName) method_3_code (3 : Nat) (Option.some Jvm.ClassFile.FieldType.int), Jvm.Cond.code ({ cls := "com/example/kazalo/kazalo/records/EncodingFaultsIsUtf8PinLaw", name := "step", desc := "([BII)I" } : Jvm.MethodName) method_4_code (9 : Nat) (Option.some Jvm.ClassFile.FieldType.int)]
set_option maxRecDepth 65536 in
theorem codes_eq : words1.filter isCode = codes1 := rfl
theorem w_codes : ∀ c ∈ words1.filter isCode, c.before args0 about1 = true := by
  rw [codes_eq]
  intro c hc
  simp only [codes1, List.mem_cons, List.not_mem_nil, or_false] at hc
  rcases hc with rfl | rfl | rfl | rfl | rfl | rfl
  · exact w_c0
  · exact w_c1
  · exact w_c2
  · exact w_c3
  · exact w_c4
  · exact w_c5
set_option maxRecDepth 65536 in
theorem w_t1 : (words1.take 24).all (fun c => isCode c || c.before args0 about1) = true := by decide +kernel
set_option maxRecDepth 65536 in
theorem w_t2 : (words1.drop 24).all (fun c => isCode c || c.before args0 about1) = true := by decide +kernel
theorem w_tables : (allAtoms (Jvm.Cond.code x code maxLocals ret :: tables_1)).before args0 about1 = true := by
  rw [allAtoms_all]
  show words1.all (fun c => c.before args0 about1) = true
  refine all_split ?_ w_codes
  rw [← List.take_append_drop 24 words1, List.all_append, w_t1, w_t2]
  rfl
set_option maxRecDepth 65536 in
theorem w_case : (Jvm.Cond.and given_1 narrow_1).before args0 about1 = true := by decide +kernel
theorem w_applies : (headSpec (Jvm.Cond.code x code maxLocals ret :: tables_1) room_1).applies x e0.platform about1 = true :=
  (Spec.applies_iff w_frames).mpr ⟨w_running, w_runnable, w_alone, w_named, w_hears, w_ripe, w_room, w_tables⟩
theorem atStart : AtStart classFile x code maxLocals ret World_1 tables_1 room_1 Calls_1 rest_1 Pre_1 launch0 p0 e0 about1 theMethod args0 below0 :=
  ⟨lists_1, trivial, launch0.admits_env _ _ _, launch0.least_env, fairChoices_fair.cas, fairChoices_fair.clock, w_frames, w_args, w_heap, w_applies, trivial, trivial, w_case⟩
end start1
theorem witness_1 : WitnessClaimed_1 := ⟨start1.p0, start1.e0, start1.about1, start1.theMethod, start1.args0, start1.below0, start1.atStart⟩
end Jvm.Pilot.@@N@@
