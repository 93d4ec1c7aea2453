import JvmDerived
import JvmDerived.Pilot.@@N@@Statement
import JvmDerived.Pilot.@@N@@Code
set_option linter.unusedVariables false
set_option linter.unusedSimpArgs false
namespace Jvm.RoadKit
open Sem ClassFile Op Lib Jvm.Stand Jvm.Free Jvm.LawKit
section New
variable {p : Program} {l : Launch} {e : Env} {R : Room} {s : State} {m : MethodId} {args : Array Value} {below : List Frame} {meth : Method} {c : Code} {T : State} {locs : List Loc} {cells slots : Nat}
theorem retI (X : Stand p l e R s m args below meth c T locs cells slots) (hx : p.tables.exec = Jvm.exec) {pc : Nat} {Ls : Array Slot} {z : Int32} {rest : List Value} (hret : meth.sig.returnType = some .int) (hd : decode c.code pc = .ok (.ireturn, 1)) {fs : List Frame}
    (hl : ∀ (f : JFrame) (acts : List Action), f.method = m → f.locked = none → f.entered = [] → (doReturn e (T.setTop f) acts (some (.int z))).1 = T.setFrames fs) : Steps p.tables e below (T.setTop (mkF m pc Ls (.int z :: rest))) (T.setFrames fs) := by
  have hm' : T.vm.method? m = some meth := X.method'
  have hn : narrow .int (.int z) = .int z := rfl
  show Steps p.tables e below (T.setTop { method := m, pc := pc, locals := Ls, stack := _ :: rest, locked := none }) _
  jvm_step X.here [X.here.top, hx, hd, hm', hret, hn]
  first | (intro acts; rw [hl _ acts rfl rfl rfl]) | rw [hl _ _ rfl rfl rfl]
  exact Steps.refl _
end New
end Jvm.RoadKit
namespace Jvm.Pilot.@@N@@
open Jvm Jvm.ClassFile Sem Op Lib Jvm.Free Jvm.Stand Jvm.LawKit Jvm.RoadKit Bundle Jvm.Pilot.@@N@@.Jvm.D
theorem oG {α : Type _} {a : α} {l : List α} {i : Nat} (h : l[i]? = some a) : a ∈ l := List.mem_of_getElem? h
def own_irem (a b : Int32) : Int32 := a - (a / b) * b
def own_lrem (a b : Int64) : Int64 := a - (a / b) * b
def own_Arf (Z : State) (h : Heap) (a : Nat) (k : ClassId) (ty : FieldType) (z : Int32) (dv : Value) : Prop := ∃ vs : List Value, z.toNatClampNeg ≤ vs.length ∧ Arv Z h a k ty z vs dv
section OwnArf
variable {Z : State} {h h' : Heap} {a b : Nat} {k : ClassId} {ty : FieldType} {z j : Int32} {dv v : Value} {vs : List Value} {ws : List Addr} {sl : Nat} {c : Cell}
theorem own_arfE (F : own_Arf Z h a k ty z dv) (E : Ext h h') : own_Arf Z h' a k ty z dv := by obtain ⟨vs, hl, V⟩ := F; exact ⟨vs, hl, V.ext E⟩
theorem own_arfK (F : own_Arf Z h a k ty z dv) (K : Keep h h' ws) (q : a ∉ ws) : own_Arf Z h' a k ty z dv := by obtain ⟨vs, hl, V⟩ := F; exact ⟨vs, hl, V.keep K q⟩
theorem own_arfO (F : own_Arf Z h b k ty z dv) (W : Wr h h' a sl v) (q : b ≠ a) : own_Arf Z h' b k ty z dv := by obtain ⟨vs, hl, V⟩ := F; exact ⟨vs, hl, V.other W q⟩
theorem own_arfL (F : own_Arf Z h a k ty z dv) : a < h.size := by obtain ⟨vs, hl, V⟩ := F; exact V.lt
theorem own_arfN (V : Arv Z h a k ty z [] dv) : own_Arf Z h a k ty z dv := ⟨[] ++ List.replicate z.toNatClampNeg dv, by simp, V.pad (pad_rep [] dv _)⟩
theorem own_arfW (hl : z.toNatClampNeg ≤ vs.length) (A : Arr Z h a c ty) (q1 : c.cls = k) (S : c.slots.size = z.toNatClampNeg) (q3 : ¬ z < 0) (H : Has c vs dv) (G : ∀ i, i < c.slots.size → fits ty (vs.getD i dv) = true) (hv : fits ty v = true) (W : Wr h h' a j.toNatClampNeg v) (hin : ¬ (j < 0 ∨ c.slots.size ≤ j.toNatClampNeg)) : own_Arf Z h' a k ty z dv :=
  ⟨vs.set j.toNatClampNeg v, by simpa using hl, Arv.set A q1 S q3 H G hv W _ rfl (Nat.lt_of_lt_of_le (Nat.lt_of_not_le fun q => hin (Or.inr q)) (by rw [S]; exact hl))⟩
end OwnArf
theorem own_cplen {vd : List Value} {p z : Nat} (h : z ≤ vd.length) (hp : p ≤ z) (hn : (0:Int32).toNatClampNeg = 0) : z ≤ (vd.take p ++ ([] : List Value) ++ vd.drop (p + (0:Int32).toNatClampNeg)).length := by
  rw [hn]; simp; omega
def own_kl (L : Int32) : Int64 := (L - (1:Int32)).toInt64
def own_pick (l : Int32) (a b c d : Nat) : Addr := if l = (0:Int32) then a else (if l = (1:Int32) then b else (if l = (2:Int32) then c else d))
theorem own_selP {Z s : State} {aw args : Array Value} {y : MethodName} {n : Nat} (hZ : Z.Warmed39 s.vm) (wi : (Cond.instantiable y.cls n).before aw Z = true) (w1 : (Cond.instanceMethod y).before aw Z = true) (w2 : (Cond.privateMethod y).before aw Z = true) (hy : y.cls ≠ "java/lang/invoke/MethodHandle" ∧ y.cls ≠ "java/lang/invoke/VarHandle") :
    (Cond.selects y.cls y y).before args s = true := by
  obtain ⟨c, k, h1, h2, -, h4, -⟩ := Cond.instantiable_spec (show (Cond.instantiable y.cls n).before args s = true from mv hZ wi)
  exact selects_self_of_private h1 h2 (by simp only [Bool.or_eq_false_iff] at h4; exact h4.1) (Cond.privateMethod_at (mvP (args := #[]) hZ w2)) (mv hZ w1) hy
theorem own_irem_mod (x y : Int32) : own_irem x y = x % y := by
  apply Int32.toInt_inj.mp
  have h1 := Int32.le_toInt (x % y)
  have h2 := Int32.toInt_lt (x % y)
  rw [own_irem, Int32.toInt_sub, Int32.toInt_mul, Int32.toInt_div, Int.bmod_mul_bmod, Int.sub_bmod_bmod, Int.mul_comm (x.toInt.tdiv y.toInt), ← Int.tmod_def, ← Int32.toInt_mod]
  exact Int.bmod_eq_of_le_mul_two (by omega) (by omega)
section OwnNum
variable {p q L sc ss i f t n : Int32} {k : Nat}
theorem own_l03 (h : q = (p &&& (3:Int32))) : q = (0:Int32) ∨ q = (1:Int32) ∨ q = (2:Int32) ∨ q = (3:Int32) := by
  have h1 := c_mask p 3 2 (by decide) (by decide)
  rw [← h] at h1
  simp only [← Int32.toInt_inj, show (0:Int32).toInt = 0 by decide, show (1:Int32).toInt = 1 by decide, show (2:Int32).toInt = 2 by decide, show (3:Int32).toInt = 3 by decide]
  omega
/-- positions in the key buffer: p, p + 1, .. -/
theorem own_px (h0 : ¬ p < (0:Int32)) (h1 : ¬ (60000:Int32) < p) : ¬ p < (0:Int32) ∧ p < (65536:Int32) := by
  refine ⟨h0, ?_⟩
  simp only [Int32.lt_iff_toInt_lt, show (65536:Int32).toInt = 65536 by decide, show (60000:Int32).toInt = 60000 by decide] at *; omega
theorem own_pn (h0 : ¬ p < (0:Int32)) (h1 : ¬ n < p) (h2 : n.toInt < 2147483647) : ¬ (p + (1:Int32)) < (0:Int32) ∧ ¬ (n + (1:Int32)) < (p + (1:Int32)) := by
  have e1 := c_iadd p 1
  have e2 := c_iadd n 1
  have r1 := rng32 (p + 1)
  have r2 := rng32 (n + 1)
  simp only [Int32.lt_iff_toInt_lt, show (0:Int32).toInt = 0 by decide, show (1:Int32).toInt = 1 by decide] at *; omega
theorem own_up (h0 : ¬ p < (0:Int32)) (h1 : ¬ n < p) {m : Int32} (hn : n.toInt < 2147483647) (hm : m.toInt = n.toInt + 1) : ¬ (p + (1:Int32)) < (0:Int32) ∧ ¬ m < (p + (1:Int32)) := by
  have e1 := c_iadd p 1
  have r1 := rng32 (p + 1)
  simp only [Int32.lt_iff_toInt_lt, show (0:Int32).toInt = 0 by decide, show (1:Int32).toInt = 1 by decide] at *; omega
theorem own_ltb {m : Int32} (h : n < p) (hm : m.toInt ≤ n.toInt) : m < p := by rw [Int32.lt_iff_toInt_lt] at *; omega
theorem own_nat (h0 : ¬ p < (0:Int32)) (h1 : ¬ (60000:Int32) < p) : p.toNatClampNeg ≤ (65536:Int32).toNatClampNeg := by
  simp only [Int32.lt_iff_toInt_lt, Int32.toNatClampNeg, show (65536:Int32).toInt = 65536 by decide, show (60000:Int32).toInt = 60000 by decide] at *; omega
theorem own_cap (h : sc = (0:Int32) ∨ sc = (1:Int32) ∨ sc = (2:Int32) ∨ sc = (3:Int32)) : ¬ ((1024:Int32) * sc) < (0:Int32) ∧ ((1024:Int32) * sc).toNatClampNeg ≤ 3072 := by
  rcases h with rfl | rfl | rfl | rfl <;> decide
theorem own_b22 (h0 : ¬ ss < (0:Int32)) (h1 : ¬ (6:Int32) < ss) (hL : L = (1:Int32) ∨ L = (2:Int32) ∨ L = (3:Int32) ∨ L = (4:Int32)) : ¬ (((65536:Int32).toInt64) < ((ss.toInt64) + (own_kl L))) := by
  have hk : 0 ≤ (own_kl L).toInt ∧ (own_kl L).toInt ≤ 3 := by rcases hL with rfl | rfl | rfl | rfl <;> decide
  have e1 := c_ladd ss.toInt64 (own_kl L)
  have r1 := rng64 (ss.toInt64 + own_kl L)
  rw [c_i2l] at e1
  simp only [Int32.lt_iff_toInt_lt, Int64.lt_iff_toInt_lt, show (0:Int32).toInt = 0 by decide, show (6:Int32).toInt = 6 by decide, show ((65536:Int32).toInt64).toInt = 65536 by decide] at *
  omega
theorem own_k6 (h1 : ¬ (6:Int32) < ss) : ¬ (6:Int32) < ss := h1
/-- the rows' statics: from k*sc to (k+1)*sc within 1024*sc -/
theorem own_fill (kk kk1 : Int32) (hk : (kk = (0:Int32) ∧ kk1 = (1:Int32)) ∨ (kk = (1:Int32) ∧ kk1 = (2:Int32)) ∨ (kk = (2:Int32) ∧ kk1 = (3:Int32))) (h : sc = (0:Int32) ∨ sc = (1:Int32) ∨ sc = (2:Int32) ∨ sc = (3:Int32)) : ¬ (kk1 * sc) < (kk * sc) ∧ ¬ (kk * sc) < (0:Int32) ∧ ¬ ((1024:Int32) * sc) < (kk1 * sc) ∧ (kk1 * sc).toInt - (kk * sc).toInt ≤ (3 : Nat) := by
  rcases hk with ⟨rfl, rfl⟩ | ⟨rfl, rfl⟩ | ⟨rfl, rfl⟩ <;> rcases h with rfl | rfl | rfl | rfl <;> decide
theorem own_ge (h : t.toInt - i.toInt ≤ (0 : Nat)) : ¬ i < t := by rw [Int32.lt_iff_toInt_lt]; omega
theorem own_inF (h0 : ¬ i < (0:Int32)) (h1 : i < t) (h2 : ¬ n < t) : ¬ i < 0 ∧ i < n := by
  refine ⟨h0, ?_⟩
  rw [Int32.lt_iff_toInt_lt] at *; omega
theorem own_nxF (h0 : ¬ i < (0:Int32)) (h1 : i < t) (hk : t.toInt - i.toInt ≤ (k + 1 : Nat)) : ¬ (i + (1:Int32)) < (0:Int32) ∧ t.toInt - (i + (1:Int32)).toInt ≤ k := by
  have e1 := c_iadd i 1
  have r1 := rng32 (i + 1)
  have r2 := rng32 t
  simp only [Int32.lt_iff_toInt_lt, show (0:Int32).toInt = 0 by decide, show (1:Int32).toInt = 1 by decide] at *; omega
end OwnNum

theorem d8_0 : decode prog_81_method_15_code 0 = .ok (.iload_n 1, 1) := by decide +kernel
theorem d8_1 : decode prog_81_method_15_code 1 = .ok (.ifCond .ne 7, 3) := by decide +kernel
theorem d8_4 : decode prog_81_method_15_code 4 = .ok (.iconst 0, 1) := by decide +kernel
theorem d8_5 : decode prog_81_method_15_code 5 = .ok (.goto 11, 3) := by decide +kernel
theorem d8_16 : decode prog_81_method_15_code 16 = .ok (.ireturn, 1) := by decide +kernel
theorem pn_8 : plainName "com/example/tavola/tavola/profile/CsvReader" = true := by first | (simp [plainName, overriddenIn]; done) | decide +kernel
theorem ef_rm8 (m : MethodId) (o0 : Nat) : entryFrame m #[(.ref o0), (.int (0:Int32))] 2 = mkF m 0 #[.val (.ref o0), .val (.int (0:Int32))] [] := by first | (simp [entryFrame, mkF, argsToLocals, Value.category]; done) | rfl
def rm8Q (Z : State) (o0 : Nat) (h0 : Heap) (n0 : Nat) (v : Option Value) (h : Heap) (L : List Loc) : Prop := v = some (.int (0:Int32)) ∧ Fr n0 L ∧ h = h0
set_option maxRecDepth 65536 in
set_option maxHeartbeats 40000000 in
theorem rm8 (l : Launch) (Z : State) (aw : Array Value) (hw : ∀ d ∈ tables_1, d.before aw Z = true) (ws : List Jvm.Cond) (o0 : Nat) (h0 : Heap) (n0 : Nat) (Z0 : n0 ≤ h0.size) :
    MetFree l (⟨"com/example/tavola/tavola/profile/CsvReader", "start", "(I)I"⟩ : MethodName) (head1 (Jvm.Cond.code (⟨"com/example/tavola/tavola/profile/CsvReader", "start", "(I)I"⟩ : MethodName) prog_81_method_15_code 2 (some .int) :: ws) ({ frames := 0, cells := 0, slots := 0, locals := 0 } : Room)) (fun a U => a = #[(.ref o0), (.int (0:Int32))] ∧ Z.Warmed39 U.vm ∧ U.heap = h0) (fun _ _ _ _ _ => True) (fun _ U o U' => ∃ v L, o = .returned v ∧ rm8Q Z o0 h0 n0 v U'.heap L ∧ FrameEnd U o U' L ({ frames := 0, cells := 0, slots := 0, locals := 0 } : Room).cells ({ frames := 0, cells := 0, slots := 0, locals := 0 } : Room).slots) := by
  refine MetFree.of_bodySF (plainFor_of_name pn_8) hisR ?_
  intro p e s m args below meth c s₁ Bd hml0 hP hK
  obtain ⟨rfl, hZ, hh⟩ := hP
  have hx := Bd.exec
  have hby := Bd.bytes
  have hml : c.maxLocals = 2 := hml0
  have hown : s.vm.findClass "com/example/tavola/tavola/profile/CsvReader" = some m.cls := findClass_of_methodNamed Bd.named
  have hnm := (name_of_methodNamed Bd.named Bd.method).1
  have X0 : Stand p l e ({ frames := 0, cells := 0, slots := 0, locals := 0 } : Room) s m #[(.ref o0), (.int (0:Int32))] below meth c s₁ [] 0 0 := Stand.of_body Bd
  have e0 : s₁.heap = h0 := by rw [← hh, Bd.state]; rfl
  have N0 := Fr.nil n0
  have pre0 : ∀ t, Steps p.tables e below (s₁.setTop (mkF m 0 #[.val (.ref o0), .val (.int (0:Int32))] [])) t → Steps p.tables e below (s₁.setTop (entryFrame m #[(.ref o0), (.int (0:Int32))] 2)) t := fun t k => castTop (ef_rm8 m o0) k
  obtain ⟨fs, hr, hrun, hended, hW, hsame⟩ := X0.leave (v := some (.int (0:Int32))) (fun h => by rw [Bd.returns] at h; cases h)
  refine ⟨_, _, pre0 _ ?_, hrun, hended, _, _, rfl, ?_, ⟨_, rfl⟩, hW, hsame.mono (by decide) (by decide)⟩
  · show Steps p.tables e below (s₁.setTop (mkF m 0 #[.val (.ref o0), .val (.int (0:Int32))] [])) _
    refine XS.iloadN X0.here hx rfl (hb hby d8_0) rfl ?_
    refine XS.ifNo X0.here hx rfl (hb hby d8_1) rfl ((if0 _ _).trans (teq (rfl : (0:Int32) = (0:Int32))).2) ?_
    refine XS.iconst X0.here hx rfl (hb hby d8_4) ?_
    refine XS.goto X0.here hx rfl (pc0 := 5) (pc' := 16) rfl (hb hby d8_5) (by decide) (by decide) ?_
    show Steps p.tables e below (s₁.setTop (mkF m 16 #[.val (.ref o0), .val (.int (0:Int32))] [(.int (0:Int32))])) _
    exact retI X0 hx Bd.returns (hb hby d8_16) hr
  · show rm8Q Z o0 h0 n0 _ s₁.heap _
    rw [e0]
    exact ⟨rfl, N0, rfl⟩
theorem d7_0 : decode prog_81_method_12_code 0 = .ok (.aload_n 1, 1) := by decide +kernel
theorem d7_1 : decode prog_81_method_12_code 1 = .ok (.arraylength, 1) := by decide +kernel
theorem d7_2 : decode prog_81_method_12_code 2 = .ok (.iconst 1, 1) := by decide +kernel
theorem d7_3 : decode prog_81_method_12_code 3 = .ok (.isub, 1) := by decide +kernel
theorem d7_4 : decode prog_81_method_12_code 4 = .ok (.i2l, 1) := by decide +kernel
theorem d7_5 : decode prog_81_method_12_code 5 = .ok (.lstore_n 2, 1) := by decide +kernel
theorem d7_6 : decode prog_81_method_12_code 6 = .ok (.aload_n 1, 1) := by decide +kernel
theorem d7_7 : decode prog_81_method_12_code 7 = .ok (.astore 4, 2) := by decide +kernel
theorem d7_9 : decode prog_81_method_12_code 9 = .ok (.aload 4, 2) := by decide +kernel
theorem d7_11 : decode prog_81_method_12_code 11 = .ok (.arraylength, 1) := by decide +kernel
theorem d7_12 : decode prog_81_method_12_code 12 = .ok (.istore 5, 2) := by decide +kernel
theorem d7_14 : decode prog_81_method_12_code 14 = .ok (.iconst 0, 1) := by decide +kernel
theorem d7_15 : decode prog_81_method_12_code 15 = .ok (.istore 6, 2) := by decide +kernel
theorem d7_17 : decode prog_81_method_12_code 17 = .ok (.iload 6, 2) := by decide +kernel
theorem d7_19 : decode prog_81_method_12_code 19 = .ok (.iload 5, 2) := by decide +kernel
theorem d7_21 : decode prog_81_method_12_code 21 = .ok (.if_icmp .ge 34, 3) := by decide +kernel
theorem d7_24 : decode prog_81_method_12_code 24 = .ok (.aload 4, 2) := by decide +kernel
theorem d7_26 : decode prog_81_method_12_code 26 = .ok (.iload 6, 2) := by decide +kernel
theorem d7_28 : decode prog_81_method_12_code 28 = .ok (.iaload, 1) := by decide +kernel
theorem d7_29 : decode prog_81_method_12_code 29 = .ok (.istore 7, 2) := by decide +kernel
theorem d7_31 : decode prog_81_method_12_code 31 = .ok (.lload_n 2, 1) := by decide +kernel
theorem d7_32 : decode prog_81_method_12_code 32 = .ok (.aload_n 0, 1) := by decide +kernel
theorem d7_33 : decode prog_81_method_12_code 33 = .ok (.getfield 21, 3) := by decide +kernel
theorem d7_36 : decode prog_81_method_12_code 36 = .ok (.iload 7, 2) := by decide +kernel
theorem d7_38 : decode prog_81_method_12_code 38 = .ok (.iaload, 1) := by decide +kernel
theorem d7_39 : decode prog_81_method_12_code 39 = .ok (.aload_n 0, 1) := by decide +kernel
theorem d7_40 : decode prog_81_method_12_code 40 = .ok (.iload 7, 2) := by decide +kernel
theorem d7_42 : decode prog_81_method_12_code 42 = .ok (.invokevirtual 64, 3) := by decide +kernel
theorem d7_45 : decode prog_81_method_12_code 45 = .ok (.isub, 1) := by decide +kernel
theorem d7_46 : decode prog_81_method_12_code 46 = .ok (.i2l, 1) := by decide +kernel
theorem d7_47 : decode prog_81_method_12_code 47 = .ok (.ladd, 1) := by decide +kernel
theorem d7_48 : decode prog_81_method_12_code 48 = .ok (.lstore_n 2, 1) := by decide +kernel
theorem d7_49 : decode prog_81_method_12_code 49 = .ok (.iinc 6 1, 3) := by decide +kernel
theorem d7_52 : decode prog_81_method_12_code 52 = .ok (.goto (-35), 3) := by decide +kernel
theorem d7_55 : decode prog_81_method_12_code 55 = .ok (.lload_n 2, 1) := by decide +kernel
theorem d7_56 : decode prog_81_method_12_code 56 = .ok (.lreturn, 1) := by decide +kernel
theorem pn_7 : plainName "com/example/tavola/tavola/profile/CsvReader" = true := by first | (simp [plainName, overriddenIn]; done) | decide +kernel
theorem pd_rm7_1_0 : parseMethodDescriptor "(I)I" = some ⟨[.int], some .int⟩ := by decide +kernel
theorem ef_rm7_1 (m : MethodId) (o0 : Nat) (o1 : Nat) : entryFrame m #[(.ref o0), (.ref o1)] 8 = mkF m 0 #[.val (.ref o0), .val (.ref o1), .unset, .unset, .unset, .unset, .unset, .unset] [] := by first | (simp [entryFrame, mkF, argsToLocals, Value.category]; done) | rfl
def rm7Q (Z : State) (o0 o1 : Nat) (LL : Int32) (h0 : Heap) (n0 : Nat) (v : Option Value) (h : Heap) (L : List Loc) : Prop := v = some (.long (own_kl LL)) ∧ Fr n0 L ∧ h = h0
set_option maxRecDepth 65536 in
set_option maxHeartbeats 40000000 in
theorem rm7_1 (l : Launch) (Z : State) (aw : Array Value) (hw : ∀ d ∈ tables_1, d.before aw Z = true) (ws : List Jvm.Cond) (o0 : Nat) (o1 : Nat) (bn : Nat) (kn k1 : ClassId) (h0 : Heap) (n0 : Nat) (Z0 : n0 ≤ h0.size) (E_o0 : Exa Z h0 o0 "com/example/tavola/tavola/profile/CsvReader") (F_ends : Fld Z h0 o0 "com/example/tavola/tavola/profile/CsvReader" "ends" "[I" (.ref bn)) (V_bn : Arv Z h0 bn kn .int (16:Int32) [] (.int (0:Int32))) (V_o1 : Arv Z h0 o1 k1 .int (1:Int32) [] (.int (0:Int32))) :
    MetFree l (⟨"com/example/tavola/tavola/profile/CsvReader", "keyLength", "([I)J"⟩ : MethodName) (head1 (Jvm.Cond.code (⟨"com/example/tavola/tavola/profile/CsvReader", "keyLength", "([I)J"⟩ : MethodName) prog_81_method_12_code 8 (some .long) :: ws) ({ frames := 1, cells := 0, slots := 0, locals := 16 } : Room)) (fun a U => a = #[(.ref o0), (.ref o1)] ∧ Z.Warmed39 U.vm ∧ U.heap = h0) (fun _ _ _ _ _ => True) (fun _ U o U' => ∃ v L, o = .returned v ∧ rm7Q Z o0 o1 (1:Int32) h0 n0 v U'.heap L ∧ FrameEnd U o U' L ({ frames := 1, cells := 0, slots := 0, locals := 16 } : Room).cells ({ frames := 1, cells := 0, slots := 0, locals := 16 } : Room).slots) := by
  refine MetFree.of_bodySF (plainFor_of_name pn_7) hisR ?_
  intro p e s m args below meth c s₁ Bd hml0 hP hK
  obtain ⟨rfl, hZ, hh⟩ := hP
  have hx := Bd.exec
  have hby := Bd.bytes
  have hml : c.maxLocals = 8 := hml0
  have hown : s.vm.findClass "com/example/tavola/tavola/profile/CsvReader" = some m.cls := findClass_of_methodNamed Bd.named
  have hnm := (name_of_methodNamed Bd.named Bd.method).1
  have X0 : Stand p l e ({ frames := 1, cells := 0, slots := 0, locals := 16 } : Room) s m #[(.ref o0), (.ref o1)] below meth c s₁ [] 0 0 := Stand.of_body Bd
  have e0 : s₁.heap = h0 := by rw [← hh, Bd.state]; rfl
  have N0 := Fr.nil n0
  have pre0 : ∀ t, Steps p.tables e below (s₁.setTop (mkF m 0 #[.val (.ref o0), .val (.ref o1), .unset, .unset, .unset, .unset, .unset, .unset] [])) t → Steps p.tables e below (s₁.setTop (entryFrame m #[(.ref o0), (.ref o1)] 8)) t := fun t k => castTop (ef_rm7_1 m o0 o1) k
  obtain ⟨cl1, Ar1, -, S1, N1', -, -⟩ := id V_o1
  obtain ⟨cl2, Ar2, -, S2, N2', -, -⟩ := id V_o1
  obtain ⟨cl3, Ar3, q3, S3, N3', H3, G3⟩ := id V_o1
  have hin3 : ¬ ((0:Int32) < 0 ∨ cl3.slots.size ≤ ((0:Int32)).toNatClampNeg) := inb_of S3 ⟨by decide, by decide⟩
  obtain ⟨T4, X4, e4, st4⟩ := getF X0 hx hZ hown (host := "") (Or.inl (hw _ (oG (i := 19) rfl))) Via.refl e0 F_ends (g := (mkF m 33 #[.val (.ref o0), .val (.ref o1), .val (.long ((0:Int32).toInt64)), .second, .val (.ref o1), .val (.int (1:Int32)), .val (.int (0:Int32)), .val (.int (0:Int32))] [(.ref o0), (.long ((0:Int32).toInt64))])) rfl rfl (hb hby d7_33)
  obtain ⟨cl5, Ar5, q5, S5, N5', H5, G5⟩ := id V_bn
  have hin5 : ¬ ((0:Int32) < 0 ∨ cl5.slots.size ≤ ((0:Int32)).toNatClampNeg) := inb_of S5 ⟨by decide, by decide⟩
  obtain ⟨cq6, q6, q6'⟩ := (E_o0).cell
  obtain ⟨_, _, ⟨T6, L6, k6, n6⟩, -, X6, ⟨Lc6, hQ6, l6, y6, z6⟩, st6⟩ := X4.privateBack hx (y := (⟨"com/example/tavola/tavola/profile/CsvReader", "start", "(I)I"⟩ : MethodName)) hown (mvT hZ (hw _ (oG (i := 70) rfl))) (mvT hZ (hw _ (oG (i := 71) rfl))) (own_selP hZ (hw _ (oG (i := 3) rfl)) (hw _ (oG (i := 71) rfl)) (hw _ (oG (i := 72) rfl)) (by decide)) (Cond.privateMethod_at (mvP hZ (hw _ (oG (i := 72) rfl)) (args := #[]))) (mvT hZ (hw _ (oG (i := 73) rfl))) (by decide) (backOf (W := 3) (rm8 l Z aw hw [] o0 h0 n0 Z0) hZ (hw _ (oG (i := 73) rfl)) (hw _ (oG (i := 4) rfl)) (by decide) (by decide)) (g := (mkF m 42 #[.val (.ref o0), .val (.ref o1), .val (.long ((0:Int32).toInt64)), .second, .val (.ref o1), .val (.int (1:Int32)), .val (.int (0:Int32)), .val (.int (0:Int32))] [(.int (0:Int32)), (.ref o0), (.int (0:Int32)), (.long ((0:Int32).toInt64))])) rfl (by rw [hml]; rfl) (Steps.refl _) (a := o0) (by rw [e4]; exact q6) q6' (argsL := [(.int (0:Int32))]) (rest := [(.int (0:Int32)), (.long ((0:Int32).toInt64))]) (lenOf pd_rm7_1_0 rfl) rfl (by show 2 * 0 + _ ≤ _; exact Nat.le_of_eq rfl) (hb hby d7_42) (fun _ _ => ⟨rfl, e4, (by decide : 0 + 0 ≤ _), (by decide : 0 + 0 ≤ _)⟩)
  dsimp only [Pt.U, Pt.locs, Pt.cells, Pt.slots] at X6 l6 y6 z6 st6 hQ6
  subst l6 y6 z6
  obtain ⟨rfl, N6q, e6q⟩ := hQ6
  have N6 := Fr.app N0 N6q
  have pre7 : ∀ t, Steps p.tables e below (T6.setTop (mkF m 56 #[.val (.ref o0), .val (.ref o1), .val (.long (((0:Int32).toInt64) + ((0:Int32).toInt64))), .second, .val (.ref o1), .val (.int (1:Int32)), .val (.int (1:Int32)), .val (.int (0:Int32))] [(.long (((0:Int32).toInt64) + ((0:Int32).toInt64)))])) t → Steps p.tables e below (s₁.setTop (entryFrame m #[(.ref o0), (.ref o1)] 8)) t := fun t k => pre0 t (by
    show Steps p.tables e below (s₁.setTop (mkF m 0 #[.val (.ref o0), .val (.ref o1), .unset, .unset, .unset, .unset, .unset, .unset] [])) _
    refine XS.aloadN X0.here hx rfl (hb hby d7_0) rfl rfl ?_
    show Steps p.tables e below (s₁.setTop (mkF m 1 #[.val (.ref o0), .val (.ref o1), .unset, .unset, .unset, .unset, .unset, .unset] [(.ref o1)])) _
    refine X0.arraylength hx (by rw [e0]; exact Ar1.1) (State.isArrayOf_alike hZ.alike Ar1.2.1) (g := (mkF m 1 #[.val (.ref o0), .val (.ref o1), .unset, .unset, .unset, .unset, .unset, .unset] [(.ref o1)])) rfl rfl (hb hby d7_1) _ ?_
    rw [len_of S1 N1']
    show Steps p.tables e below (s₁.setTop (mkF m 2 #[.val (.ref o0), .val (.ref o1), .unset, .unset, .unset, .unset, .unset, .unset] [(.int (1:Int32))])) _
    refine XS.iconst X0.here hx rfl (hb hby d7_2) ?_
    show Steps p.tables e below (s₁.setTop (mkF m 3 #[.val (.ref o0), .val (.ref o1), .unset, .unset, .unset, .unset, .unset, .unset] [(.int (1:Int32)), (.int (1:Int32))])) _
    refine XS.isub X0.here hx rfl (hb hby d7_3) rfl ?_
    rw [show ((1:Int32) - (1:Int32)) = (0:Int32) from by decide]
    show Steps p.tables e below (s₁.setTop (mkF m 4 #[.val (.ref o0), .val (.ref o1), .unset, .unset, .unset, .unset, .unset, .unset] [(.int (0:Int32))])) _
    refine XS.i2l X0.here hx rfl (hb hby d7_4) rfl ?_
    refine XS.lstoreN X0.here hx rfl (hb hby d7_5) rfl (l' := #[.val (.ref o0), .val (.ref o1), .val (.long ((0:Int32).toInt64)), .second, .unset, .unset, .unset, .unset]) rfl ?_
    refine XS.aloadN X0.here hx rfl (hb hby d7_6) rfl rfl ?_
    refine XS.astore X0.here hx rfl (hb hby d7_7) rfl rfl (l' := #[.val (.ref o0), .val (.ref o1), .val (.long ((0:Int32).toInt64)), .second, .val (.ref o1), .unset, .unset, .unset]) rfl ?_
    refine XS.aload X0.here hx rfl (hb hby d7_9) rfl rfl ?_
    show Steps p.tables e below (s₁.setTop (mkF m 11 #[.val (.ref o0), .val (.ref o1), .val (.long ((0:Int32).toInt64)), .second, .val (.ref o1), .unset, .unset, .unset] [(.ref o1)])) _
    refine X0.arraylength hx (by rw [e0]; exact Ar2.1) (State.isArrayOf_alike hZ.alike Ar2.2.1) (g := (mkF m 11 #[.val (.ref o0), .val (.ref o1), .val (.long ((0:Int32).toInt64)), .second, .val (.ref o1), .unset, .unset, .unset] [(.ref o1)])) rfl rfl (hb hby d7_11) _ ?_
    rw [len_of S2 N2']
    show Steps p.tables e below (s₁.setTop (mkF m 12 #[.val (.ref o0), .val (.ref o1), .val (.long ((0:Int32).toInt64)), .second, .val (.ref o1), .unset, .unset, .unset] [(.int (1:Int32))])) _
    refine XS.istore X0.here hx rfl (hb hby d7_12) rfl (l' := #[.val (.ref o0), .val (.ref o1), .val (.long ((0:Int32).toInt64)), .second, .val (.ref o1), .val (.int (1:Int32)), .unset, .unset]) rfl ?_
    refine XS.iconst X0.here hx rfl (hb hby d7_14) ?_
    refine XS.istore X0.here hx rfl (hb hby d7_15) rfl (l' := #[.val (.ref o0), .val (.ref o1), .val (.long ((0:Int32).toInt64)), .second, .val (.ref o1), .val (.int (1:Int32)), .val (.int (0:Int32)), .unset]) rfl ?_
    refine XS.iload X0.here hx rfl (hb hby d7_17) rfl ?_
    refine XS.iload X0.here hx rfl (hb hby d7_19) rfl ?_
    refine XS.icmpNo X0.here hx rfl (hb hby d7_21) rfl (tlt ((by decide) : (0:Int32) < (1:Int32))).2.1 ?_
    refine XS.aload X0.here hx rfl (hb hby d7_24) rfl rfl ?_
    refine XS.iload X0.here hx rfl (hb hby d7_26) rfl ?_
    show Steps p.tables e below (s₁.setTop (mkF m 28 #[.val (.ref o0), .val (.ref o1), .val (.long ((0:Int32).toInt64)), .second, .val (.ref o1), .val (.int (1:Int32)), .val (.int (0:Int32)), .unset] [(.int (0:Int32)), (.ref o1)])) _
    refine X0.iaload hx (j := (0:Int32)) (v := (.int (0:Int32))) (by rw [e0]; exact Ar3.1) (State.isArrayOf_alike hZ.alike Ar3.2.1) Ar3.2.2 hin3 (H3.at hin3 rfl) (g := (mkF m 28 #[.val (.ref o0), .val (.ref o1), .val (.long ((0:Int32).toInt64)), .second, .val (.ref o1), .val (.int (1:Int32)), .val (.int (0:Int32)), .unset] [(.int (0:Int32)), (.ref o1)])) rfl rfl (hb hby d7_28) _ ?_
    show Steps p.tables e below (s₁.setTop (mkF m 29 #[.val (.ref o0), .val (.ref o1), .val (.long ((0:Int32).toInt64)), .second, .val (.ref o1), .val (.int (1:Int32)), .val (.int (0:Int32)), .unset] [(.int (0:Int32))])) _
    refine XS.istore X0.here hx rfl (hb hby d7_29) rfl (l' := #[.val (.ref o0), .val (.ref o1), .val (.long ((0:Int32).toInt64)), .second, .val (.ref o1), .val (.int (1:Int32)), .val (.int (0:Int32)), .val (.int (0:Int32))]) rfl ?_
    refine XS.lloadN X0.here hx rfl (hb hby d7_31) rfl ?_
    refine XS.aloadN X0.here hx rfl (hb hby d7_32) rfl rfl ?_
    show Steps p.tables e below (s₁.setTop (mkF m 33 #[.val (.ref o0), .val (.ref o1), .val (.long ((0:Int32).toInt64)), .second, .val (.ref o1), .val (.int (1:Int32)), .val (.int (0:Int32)), .val (.int (0:Int32))] [(.ref o0), (.long ((0:Int32).toInt64))])) _
    refine st4 _ ?_
    show Steps p.tables e below (T4.setTop (mkF m 36 #[.val (.ref o0), .val (.ref o1), .val (.long ((0:Int32).toInt64)), .second, .val (.ref o1), .val (.int (1:Int32)), .val (.int (0:Int32)), .val (.int (0:Int32))] [(.ref bn), (.long ((0:Int32).toInt64))])) _
    refine XS.iload X4.here hx rfl (hb hby d7_36) rfl ?_
    show Steps p.tables e below (T4.setTop (mkF m 38 #[.val (.ref o0), .val (.ref o1), .val (.long ((0:Int32).toInt64)), .second, .val (.ref o1), .val (.int (1:Int32)), .val (.int (0:Int32)), .val (.int (0:Int32))] [(.int (0:Int32)), (.ref bn), (.long ((0:Int32).toInt64))])) _
    refine X4.iaload hx (j := (0:Int32)) (v := (.int (0:Int32))) (by rw [e4]; exact Ar5.1) (State.isArrayOf_alike hZ.alike Ar5.2.1) Ar5.2.2 hin5 (H5.at hin5 rfl) (g := (mkF m 38 #[.val (.ref o0), .val (.ref o1), .val (.long ((0:Int32).toInt64)), .second, .val (.ref o1), .val (.int (1:Int32)), .val (.int (0:Int32)), .val (.int (0:Int32))] [(.int (0:Int32)), (.ref bn), (.long ((0:Int32).toInt64))])) rfl rfl (hb hby d7_38) _ ?_
    show Steps p.tables e below (T4.setTop (mkF m 39 #[.val (.ref o0), .val (.ref o1), .val (.long ((0:Int32).toInt64)), .second, .val (.ref o1), .val (.int (1:Int32)), .val (.int (0:Int32)), .val (.int (0:Int32))] [(.int (0:Int32)), (.long ((0:Int32).toInt64))])) _
    refine XS.aloadN X4.here hx rfl (hb hby d7_39) rfl rfl ?_
    refine XS.iload X4.here hx rfl (hb hby d7_40) rfl ?_
    show Steps p.tables e below (T4.setTop (mkF m 42 #[.val (.ref o0), .val (.ref o1), .val (.long ((0:Int32).toInt64)), .second, .val (.ref o1), .val (.int (1:Int32)), .val (.int (0:Int32)), .val (.int (0:Int32))] [(.int (0:Int32)), (.ref o0), (.int (0:Int32)), (.long ((0:Int32).toInt64))])) _
    refine st6.trans ?_
    show Steps p.tables e below (T6.setTop (mkF m 45 #[.val (.ref o0), .val (.ref o1), .val (.long ((0:Int32).toInt64)), .second, .val (.ref o1), .val (.int (1:Int32)), .val (.int (0:Int32)), .val (.int (0:Int32))] [(.int (0:Int32)), (.int (0:Int32)), (.long ((0:Int32).toInt64))])) _
    refine XS.isub X6.here hx rfl (hb hby d7_45) rfl ?_
    rw [show ((0:Int32) - (0:Int32)) = (0:Int32) from by decide]
    show Steps p.tables e below (T6.setTop (mkF m 46 #[.val (.ref o0), .val (.ref o1), .val (.long ((0:Int32).toInt64)), .second, .val (.ref o1), .val (.int (1:Int32)), .val (.int (0:Int32)), .val (.int (0:Int32))] [(.int (0:Int32)), (.long ((0:Int32).toInt64))])) _
    refine XS.i2l X6.here hx rfl (hb hby d7_46) rfl ?_
    refine XS.ladd X6.here hx rfl (hb hby d7_47) rfl ?_
    refine XS.lstoreN X6.here hx rfl (hb hby d7_48) rfl (l' := #[.val (.ref o0), .val (.ref o1), .val (.long (((0:Int32).toInt64) + ((0:Int32).toInt64))), .second, .val (.ref o1), .val (.int (1:Int32)), .val (.int (0:Int32)), .val (.int (0:Int32))]) rfl ?_
    refine XS.iinc X6.here hx rfl (hb hby d7_49) rfl (l' := #[.val (.ref o0), .val (.ref o1), .val (.long (((0:Int32).toInt64) + ((0:Int32).toInt64))), .second, .val (.ref o1), .val (.int (1:Int32)), .val (.int (1:Int32)), .val (.int (0:Int32))]) rfl ?_
    refine XS.goto X6.here hx rfl (pc0 := 52) (pc' := 17) rfl (hb hby d7_52) (by decide) (by decide) ?_
    refine XS.iload X6.here hx rfl (hb hby d7_17) rfl ?_
    refine XS.iload X6.here hx rfl (hb hby d7_19) rfl ?_
    refine XS.icmpYes X6.here hx rfl (pc0 := 21) (pc' := 55) rfl (hb hby d7_21) rfl (flt ((by decide) : ¬ ((1:Int32) < (1:Int32)))).2.1 (by decide) (by decide) ?_
    refine XS.lloadN X6.here hx rfl (hb hby d7_55) rfl ?_
    exact k)
  obtain ⟨rv, hrv⟩ : ∃ z : Int64, z = (((0:Int32).toInt64) + ((0:Int32).toInt64)) := ⟨_, rfl⟩
  rw [← hrv] at pre7
  obtain ⟨fs, hr, hrun, hended, hW, hsame⟩ := X6.leave (v := some (.long rv)) (fun h => by rw [Bd.returns] at h; cases h)
  refine ⟨_, _, pre7 _ ?_, hrun, hended, _, _, rfl, ?_, ⟨_, rfl⟩, hW, hsame.mono (by decide) (by decide)⟩
  · show Steps p.tables e below (T6.setTop (mkF m 56 #[.val (.ref o0), .val (.ref o1), .val (.long rv), .second, .val (.ref o1), .val (.int (1:Int32)), .val (.int (1:Int32)), .val (.int (0:Int32))] [(.long rv)])) _
    jvm_step X6.here [X6.here.top, hx, (hb hby d7_56), X6.method', Bd.returns, narrow]
    first | (intro acts; rw [hr _ acts rfl rfl rfl]) | rw [hr _ _ rfl rfl rfl]
    exact Steps.refl _
  · show rm7Q Z o0 o1 (1:Int32) h0 n0 _ T6.heap _
    rw [e6q]
    exact ⟨(congrArg (fun z => some (Value.long z)) (hrv.trans (by decide))), N6, rfl⟩
theorem pd_rm7_2_0 : parseMethodDescriptor "(I)I" = some ⟨[.int], some .int⟩ := by decide +kernel
theorem ef_rm7_2 (m : MethodId) (o0 : Nat) (o1 : Nat) : entryFrame m #[(.ref o0), (.ref o1)] 8 = mkF m 0 #[.val (.ref o0), .val (.ref o1), .unset, .unset, .unset, .unset, .unset, .unset] [] := by first | (simp [entryFrame, mkF, argsToLocals, Value.category]; done) | rfl
set_option maxRecDepth 65536 in
set_option maxHeartbeats 40000000 in
theorem rm7_2 (l : Launch) (Z : State) (aw : Array Value) (hw : ∀ d ∈ tables_1, d.before aw Z = true) (ws : List Jvm.Cond) (o0 : Nat) (o1 : Nat) (bn : Nat) (kn k1 : ClassId) (h0 : Heap) (n0 : Nat) (Z0 : n0 ≤ h0.size) (E_o0 : Exa Z h0 o0 "com/example/tavola/tavola/profile/CsvReader") (F_ends : Fld Z h0 o0 "com/example/tavola/tavola/profile/CsvReader" "ends" "[I" (.ref bn)) (V_bn : Arv Z h0 bn kn .int (16:Int32) [] (.int (0:Int32))) (V_o1 : Arv Z h0 o1 k1 .int (2:Int32) [] (.int (0:Int32))) :
    MetFree l (⟨"com/example/tavola/tavola/profile/CsvReader", "keyLength", "([I)J"⟩ : MethodName) (head1 (Jvm.Cond.code (⟨"com/example/tavola/tavola/profile/CsvReader", "keyLength", "([I)J"⟩ : MethodName) prog_81_method_12_code 8 (some .long) :: ws) ({ frames := 1, cells := 0, slots := 0, locals := 16 } : Room)) (fun a U => a = #[(.ref o0), (.ref o1)] ∧ Z.Warmed39 U.vm ∧ U.heap = h0) (fun _ _ _ _ _ => True) (fun _ U o U' => ∃ v L, o = .returned v ∧ rm7Q Z o0 o1 (2:Int32) h0 n0 v U'.heap L ∧ FrameEnd U o U' L ({ frames := 1, cells := 0, slots := 0, locals := 16 } : Room).cells ({ frames := 1, cells := 0, slots := 0, locals := 16 } : Room).slots) := by
  refine MetFree.of_bodySF (plainFor_of_name pn_7) hisR ?_
  intro p e s m args below meth c s₁ Bd hml0 hP hK
  obtain ⟨rfl, hZ, hh⟩ := hP
  have hx := Bd.exec
  have hby := Bd.bytes
  have hml : c.maxLocals = 8 := hml0
  have hown : s.vm.findClass "com/example/tavola/tavola/profile/CsvReader" = some m.cls := findClass_of_methodNamed Bd.named
  have hnm := (name_of_methodNamed Bd.named Bd.method).1
  have X0 : Stand p l e ({ frames := 1, cells := 0, slots := 0, locals := 16 } : Room) s m #[(.ref o0), (.ref o1)] below meth c s₁ [] 0 0 := Stand.of_body Bd
  have e0 : s₁.heap = h0 := by rw [← hh, Bd.state]; rfl
  have N0 := Fr.nil n0
  have pre0 : ∀ t, Steps p.tables e below (s₁.setTop (mkF m 0 #[.val (.ref o0), .val (.ref o1), .unset, .unset, .unset, .unset, .unset, .unset] [])) t → Steps p.tables e below (s₁.setTop (entryFrame m #[(.ref o0), (.ref o1)] 8)) t := fun t k => castTop (ef_rm7_2 m o0 o1) k
  obtain ⟨cl1, Ar1, -, S1, N1', -, -⟩ := id V_o1
  obtain ⟨cl2, Ar2, -, S2, N2', -, -⟩ := id V_o1
  obtain ⟨cl3, Ar3, q3, S3, N3', H3, G3⟩ := id V_o1
  have hin3 : ¬ ((0:Int32) < 0 ∨ cl3.slots.size ≤ ((0:Int32)).toNatClampNeg) := inb_of S3 ⟨by decide, by decide⟩
  obtain ⟨T4, X4, e4, st4⟩ := getF X0 hx hZ hown (host := "") (Or.inl (hw _ (oG (i := 19) rfl))) Via.refl e0 F_ends (g := (mkF m 33 #[.val (.ref o0), .val (.ref o1), .val (.long ((1:Int32).toInt64)), .second, .val (.ref o1), .val (.int (2:Int32)), .val (.int (0:Int32)), .val (.int (0:Int32))] [(.ref o0), (.long ((1:Int32).toInt64))])) rfl rfl (hb hby d7_33)
  obtain ⟨cl5, Ar5, q5, S5, N5', H5, G5⟩ := id V_bn
  have hin5 : ¬ ((0:Int32) < 0 ∨ cl5.slots.size ≤ ((0:Int32)).toNatClampNeg) := inb_of S5 ⟨by decide, by decide⟩
  obtain ⟨cq6, q6, q6'⟩ := (E_o0).cell
  obtain ⟨_, _, ⟨T6, L6, k6, n6⟩, -, X6, ⟨Lc6, hQ6, l6, y6, z6⟩, st6⟩ := X4.privateBack hx (y := (⟨"com/example/tavola/tavola/profile/CsvReader", "start", "(I)I"⟩ : MethodName)) hown (mvT hZ (hw _ (oG (i := 70) rfl))) (mvT hZ (hw _ (oG (i := 71) rfl))) (own_selP hZ (hw _ (oG (i := 3) rfl)) (hw _ (oG (i := 71) rfl)) (hw _ (oG (i := 72) rfl)) (by decide)) (Cond.privateMethod_at (mvP hZ (hw _ (oG (i := 72) rfl)) (args := #[]))) (mvT hZ (hw _ (oG (i := 73) rfl))) (by decide) (backOf (W := 3) (rm8 l Z aw hw [] o0 h0 n0 Z0) hZ (hw _ (oG (i := 73) rfl)) (hw _ (oG (i := 4) rfl)) (by decide) (by decide)) (g := (mkF m 42 #[.val (.ref o0), .val (.ref o1), .val (.long ((1:Int32).toInt64)), .second, .val (.ref o1), .val (.int (2:Int32)), .val (.int (0:Int32)), .val (.int (0:Int32))] [(.int (0:Int32)), (.ref o0), (.int (0:Int32)), (.long ((1:Int32).toInt64))])) rfl (by rw [hml]; rfl) (Steps.refl _) (a := o0) (by rw [e4]; exact q6) q6' (argsL := [(.int (0:Int32))]) (rest := [(.int (0:Int32)), (.long ((1:Int32).toInt64))]) (lenOf pd_rm7_2_0 rfl) rfl (by show 2 * 0 + _ ≤ _; exact Nat.le_of_eq rfl) (hb hby d7_42) (fun _ _ => ⟨rfl, e4, (by decide : 0 + 0 ≤ _), (by decide : 0 + 0 ≤ _)⟩)
  dsimp only [Pt.U, Pt.locs, Pt.cells, Pt.slots] at X6 l6 y6 z6 st6 hQ6
  subst l6 y6 z6
  obtain ⟨rfl, N6q, e6q⟩ := hQ6
  have N6 := Fr.app N0 N6q
  obtain ⟨cl7, Ar7, q7, S7, N7', H7, G7⟩ := id V_o1
  have hin7 : ¬ ((1:Int32) < 0 ∨ cl7.slots.size ≤ ((1:Int32)).toNatClampNeg) := inb_of S7 ⟨by decide, by decide⟩
  obtain ⟨T8, X8, e8, st8⟩ := getF X6 hx hZ hown (host := "") (Or.inl (hw _ (oG (i := 19) rfl))) Via.refl e6q F_ends (g := (mkF m 33 #[.val (.ref o0), .val (.ref o1), .val (.long (((1:Int32).toInt64) + ((0:Int32).toInt64))), .second, .val (.ref o1), .val (.int (2:Int32)), .val (.int (1:Int32)), .val (.int (0:Int32))] [(.ref o0), (.long (((1:Int32).toInt64) + ((0:Int32).toInt64)))])) rfl rfl (hb hby d7_33)
  obtain ⟨cl9, Ar9, q9, S9, N9', H9, G9⟩ := id V_bn
  have hin9 : ¬ ((0:Int32) < 0 ∨ cl9.slots.size ≤ ((0:Int32)).toNatClampNeg) := inb_of S9 ⟨by decide, by decide⟩
  obtain ⟨cq10, q10, q10'⟩ := (E_o0).cell
  obtain ⟨_, _, ⟨T10, L10, k10, n10⟩, -, X10, ⟨Lc10, hQ10, l10, y10, z10⟩, st10⟩ := X8.privateBack hx (y := (⟨"com/example/tavola/tavola/profile/CsvReader", "start", "(I)I"⟩ : MethodName)) hown (mvT hZ (hw _ (oG (i := 70) rfl))) (mvT hZ (hw _ (oG (i := 71) rfl))) (own_selP hZ (hw _ (oG (i := 3) rfl)) (hw _ (oG (i := 71) rfl)) (hw _ (oG (i := 72) rfl)) (by decide)) (Cond.privateMethod_at (mvP hZ (hw _ (oG (i := 72) rfl)) (args := #[]))) (mvT hZ (hw _ (oG (i := 73) rfl))) (by decide) (backOf (W := 3) (rm8 l Z aw hw [] o0 h0 n0 Z0) hZ (hw _ (oG (i := 73) rfl)) (hw _ (oG (i := 4) rfl)) (by decide) (by decide)) (g := (mkF m 42 #[.val (.ref o0), .val (.ref o1), .val (.long (((1:Int32).toInt64) + ((0:Int32).toInt64))), .second, .val (.ref o1), .val (.int (2:Int32)), .val (.int (1:Int32)), .val (.int (0:Int32))] [(.int (0:Int32)), (.ref o0), (.int (0:Int32)), (.long (((1:Int32).toInt64) + ((0:Int32).toInt64)))])) rfl (by rw [hml]; rfl) (Steps.refl _) (a := o0) (by rw [e8]; exact q10) q10' (argsL := [(.int (0:Int32))]) (rest := [(.int (0:Int32)), (.long (((1:Int32).toInt64) + ((0:Int32).toInt64)))]) (lenOf pd_rm7_2_0 rfl) rfl (by show 2 * 0 + _ ≤ _; exact Nat.le_of_eq rfl) (hb hby d7_42) (fun _ _ => ⟨rfl, e8, (by decide : 0 + 0 ≤ _), (by decide : 0 + 0 ≤ _)⟩)
  dsimp only [Pt.U, Pt.locs, Pt.cells, Pt.slots] at X10 l10 y10 z10 st10 hQ10
  subst l10 y10 z10
  obtain ⟨rfl, N10q, e10q⟩ := hQ10
  have N10 := Fr.app N6 N10q
  have pre11 : ∀ t, Steps p.tables e below (T10.setTop (mkF m 56 #[.val (.ref o0), .val (.ref o1), .val (.long ((((1:Int32).toInt64) + ((0:Int32).toInt64)) + ((0:Int32).toInt64))), .second, .val (.ref o1), .val (.int (2:Int32)), .val (.int (2:Int32)), .val (.int (0:Int32))] [(.long ((((1:Int32).toInt64) + ((0:Int32).toInt64)) + ((0:Int32).toInt64)))])) t → Steps p.tables e below (s₁.setTop (entryFrame m #[(.ref o0), (.ref o1)] 8)) t := fun t k => pre0 t (by
    show Steps p.tables e below (s₁.setTop (mkF m 0 #[.val (.ref o0), .val (.ref o1), .unset, .unset, .unset, .unset, .unset, .unset] [])) _
    refine XS.aloadN X0.here hx rfl (hb hby d7_0) rfl rfl ?_
    show Steps p.tables e below (s₁.setTop (mkF m 1 #[.val (.ref o0), .val (.ref o1), .unset, .unset, .unset, .unset, .unset, .unset] [(.ref o1)])) _
    refine X0.arraylength hx (by rw [e0]; exact Ar1.1) (State.isArrayOf_alike hZ.alike Ar1.2.1) (g := (mkF m 1 #[.val (.ref o0), .val (.ref o1), .unset, .unset, .unset, .unset, .unset, .unset] [(.ref o1)])) rfl rfl (hb hby d7_1) _ ?_
    rw [len_of S1 N1']
    show Steps p.tables e below (s₁.setTop (mkF m 2 #[.val (.ref o0), .val (.ref o1), .unset, .unset, .unset, .unset, .unset, .unset] [(.int (2:Int32))])) _
    refine XS.iconst X0.here hx rfl (hb hby d7_2) ?_
    show Steps p.tables e below (s₁.setTop (mkF m 3 #[.val (.ref o0), .val (.ref o1), .unset, .unset, .unset, .unset, .unset, .unset] [(.int (1:Int32)), (.int (2:Int32))])) _
    refine XS.isub X0.here hx rfl (hb hby d7_3) rfl ?_
    rw [show ((2:Int32) - (1:Int32)) = (1:Int32) from by decide]
    show Steps p.tables e below (s₁.setTop (mkF m 4 #[.val (.ref o0), .val (.ref o1), .unset, .unset, .unset, .unset, .unset, .unset] [(.int (1:Int32))])) _
    refine XS.i2l X0.here hx rfl (hb hby d7_4) rfl ?_
    refine XS.lstoreN X0.here hx rfl (hb hby d7_5) rfl (l' := #[.val (.ref o0), .val (.ref o1), .val (.long ((1:Int32).toInt64)), .second, .unset, .unset, .unset, .unset]) rfl ?_
    refine XS.aloadN X0.here hx rfl (hb hby d7_6) rfl rfl ?_
    refine XS.astore X0.here hx rfl (hb hby d7_7) rfl rfl (l' := #[.val (.ref o0), .val (.ref o1), .val (.long ((1:Int32).toInt64)), .second, .val (.ref o1), .unset, .unset, .unset]) rfl ?_
    refine XS.aload X0.here hx rfl (hb hby d7_9) rfl rfl ?_
    show Steps p.tables e below (s₁.setTop (mkF m 11 #[.val (.ref o0), .val (.ref o1), .val (.long ((1:Int32).toInt64)), .second, .val (.ref o1), .unset, .unset, .unset] [(.ref o1)])) _
    refine X0.arraylength hx (by rw [e0]; exact Ar2.1) (State.isArrayOf_alike hZ.alike Ar2.2.1) (g := (mkF m 11 #[.val (.ref o0), .val (.ref o1), .val (.long ((1:Int32).toInt64)), .second, .val (.ref o1), .unset, .unset, .unset] [(.ref o1)])) rfl rfl (hb hby d7_11) _ ?_
    rw [len_of S2 N2']
    show Steps p.tables e below (s₁.setTop (mkF m 12 #[.val (.ref o0), .val (.ref o1), .val (.long ((1:Int32).toInt64)), .second, .val (.ref o1), .unset, .unset, .unset] [(.int (2:Int32))])) _
    refine XS.istore X0.here hx rfl (hb hby d7_12) rfl (l' := #[.val (.ref o0), .val (.ref o1), .val (.long ((1:Int32).toInt64)), .second, .val (.ref o1), .val (.int (2:Int32)), .unset, .unset]) rfl ?_
    refine XS.iconst X0.here hx rfl (hb hby d7_14) ?_
    refine XS.istore X0.here hx rfl (hb hby d7_15) rfl (l' := #[.val (.ref o0), .val (.ref o1), .val (.long ((1:Int32).toInt64)), .second, .val (.ref o1), .val (.int (2:Int32)), .val (.int (0:Int32)), .unset]) rfl ?_
    refine XS.iload X0.here hx rfl (hb hby d7_17) rfl ?_
    refine XS.iload X0.here hx rfl (hb hby d7_19) rfl ?_
    refine XS.icmpNo X0.here hx rfl (hb hby d7_21) rfl (tlt ((by decide) : (0:Int32) < (2:Int32))).2.1 ?_
    refine XS.aload X0.here hx rfl (hb hby d7_24) rfl rfl ?_
    refine XS.iload X0.here hx rfl (hb hby d7_26) rfl ?_
    show Steps p.tables e below (s₁.setTop (mkF m 28 #[.val (.ref o0), .val (.ref o1), .val (.long ((1:Int32).toInt64)), .second, .val (.ref o1), .val (.int (2:Int32)), .val (.int (0:Int32)), .unset] [(.int (0:Int32)), (.ref o1)])) _
    refine X0.iaload hx (j := (0:Int32)) (v := (.int (0:Int32))) (by rw [e0]; exact Ar3.1) (State.isArrayOf_alike hZ.alike Ar3.2.1) Ar3.2.2 hin3 (H3.at hin3 rfl) (g := (mkF m 28 #[.val (.ref o0), .val (.ref o1), .val (.long ((1:Int32).toInt64)), .second, .val (.ref o1), .val (.int (2:Int32)), .val (.int (0:Int32)), .unset] [(.int (0:Int32)), (.ref o1)])) rfl rfl (hb hby d7_28) _ ?_
    show Steps p.tables e below (s₁.setTop (mkF m 29 #[.val (.ref o0), .val (.ref o1), .val (.long ((1:Int32).toInt64)), .second, .val (.ref o1), .val (.int (2:Int32)), .val (.int (0:Int32)), .unset] [(.int (0:Int32))])) _
    refine XS.istore X0.here hx rfl (hb hby d7_29) rfl (l' := #[.val (.ref o0), .val (.ref o1), .val (.long ((1:Int32).toInt64)), .second, .val (.ref o1), .val (.int (2:Int32)), .val (.int (0:Int32)), .val (.int (0:Int32))]) rfl ?_
    refine XS.lloadN X0.here hx rfl (hb hby d7_31) rfl ?_
    refine XS.aloadN X0.here hx rfl (hb hby d7_32) rfl rfl ?_
    show Steps p.tables e below (s₁.setTop (mkF m 33 #[.val (.ref o0), .val (.ref o1), .val (.long ((1:Int32).toInt64)), .second, .val (.ref o1), .val (.int (2:Int32)), .val (.int (0:Int32)), .val (.int (0:Int32))] [(.ref o0), (.long ((1:Int32).toInt64))])) _
    refine st4 _ ?_
    show Steps p.tables e below (T4.setTop (mkF m 36 #[.val (.ref o0), .val (.ref o1), .val (.long ((1:Int32).toInt64)), .second, .val (.ref o1), .val (.int (2:Int32)), .val (.int (0:Int32)), .val (.int (0:Int32))] [(.ref bn), (.long ((1:Int32).toInt64))])) _
    refine XS.iload X4.here hx rfl (hb hby d7_36) rfl ?_
    show Steps p.tables e below (T4.setTop (mkF m 38 #[.val (.ref o0), .val (.ref o1), .val (.long ((1:Int32).toInt64)), .second, .val (.ref o1), .val (.int (2:Int32)), .val (.int (0:Int32)), .val (.int (0:Int32))] [(.int (0:Int32)), (.ref bn), (.long ((1:Int32).toInt64))])) _
    refine X4.iaload hx (j := (0:Int32)) (v := (.int (0:Int32))) (by rw [e4]; exact Ar5.1) (State.isArrayOf_alike hZ.alike Ar5.2.1) Ar5.2.2 hin5 (H5.at hin5 rfl) (g := (mkF m 38 #[.val (.ref o0), .val (.ref o1), .val (.long ((1:Int32).toInt64)), .second, .val (.ref o1), .val (.int (2:Int32)), .val (.int (0:Int32)), .val (.int (0:Int32))] [(.int (0:Int32)), (.ref bn), (.long ((1:Int32).toInt64))])) rfl rfl (hb hby d7_38) _ ?_
    show Steps p.tables e below (T4.setTop (mkF m 39 #[.val (.ref o0), .val (.ref o1), .val (.long ((1:Int32).toInt64)), .second, .val (.ref o1), .val (.int (2:Int32)), .val (.int (0:Int32)), .val (.int (0:Int32))] [(.int (0:Int32)), (.long ((1:Int32).toInt64))])) _
    refine XS.aloadN X4.here hx rfl (hb hby d7_39) rfl rfl ?_
    refine XS.iload X4.here hx rfl (hb hby d7_40) rfl ?_
    show Steps p.tables e below (T4.setTop (mkF m 42 #[.val (.ref o0), .val (.ref o1), .val (.long ((1:Int32).toInt64)), .second, .val (.ref o1), .val (.int (2:Int32)), .val (.int (0:Int32)), .val (.int (0:Int32))] [(.int (0:Int32)), (.ref o0), (.int (0:Int32)), (.long ((1:Int32).toInt64))])) _
    refine st6.trans ?_
    show Steps p.tables e below (T6.setTop (mkF m 45 #[.val (.ref o0), .val (.ref o1), .val (.long ((1:Int32).toInt64)), .second, .val (.ref o1), .val (.int (2:Int32)), .val (.int (0:Int32)), .val (.int (0:Int32))] [(.int (0:Int32)), (.int (0:Int32)), (.long ((1:Int32).toInt64))])) _
    refine XS.isub X6.here hx rfl (hb hby d7_45) rfl ?_
    rw [show ((0:Int32) - (0:Int32)) = (0:Int32) from by decide]
    show Steps p.tables e below (T6.setTop (mkF m 46 #[.val (.ref o0), .val (.ref o1), .val (.long ((1:Int32).toInt64)), .second, .val (.ref o1), .val (.int (2:Int32)), .val (.int (0:Int32)), .val (.int (0:Int32))] [(.int (0:Int32)), (.long ((1:Int32).toInt64))])) _
    refine XS.i2l X6.here hx rfl (hb hby d7_46) rfl ?_
    refine XS.ladd X6.here hx rfl (hb hby d7_47) rfl ?_
    refine XS.lstoreN X6.here hx rfl (hb hby d7_48) rfl (l' := #[.val (.ref o0), .val (.ref o1), .val (.long (((1:Int32).toInt64) + ((0:Int32).toInt64))), .second, .val (.ref o1), .val (.int (2:Int32)), .val (.int (0:Int32)), .val (.int (0:Int32))]) rfl ?_
    refine XS.iinc X6.here hx rfl (hb hby d7_49) rfl (l' := #[.val (.ref o0), .val (.ref o1), .val (.long (((1:Int32).toInt64) + ((0:Int32).toInt64))), .second, .val (.ref o1), .val (.int (2:Int32)), .val (.int (1:Int32)), .val (.int (0:Int32))]) rfl ?_
    refine XS.goto X6.here hx rfl (pc0 := 52) (pc' := 17) rfl (hb hby d7_52) (by decide) (by decide) ?_
    refine XS.iload X6.here hx rfl (hb hby d7_17) rfl ?_
    refine XS.iload X6.here hx rfl (hb hby d7_19) rfl ?_
    refine XS.icmpNo X6.here hx rfl (hb hby d7_21) rfl (tlt ((by decide) : (1:Int32) < (2:Int32))).2.1 ?_
    refine XS.aload X6.here hx rfl (hb hby d7_24) rfl rfl ?_
    refine XS.iload X6.here hx rfl (hb hby d7_26) rfl ?_
    show Steps p.tables e below (T6.setTop (mkF m 28 #[.val (.ref o0), .val (.ref o1), .val (.long (((1:Int32).toInt64) + ((0:Int32).toInt64))), .second, .val (.ref o1), .val (.int (2:Int32)), .val (.int (1:Int32)), .val (.int (0:Int32))] [(.int (1:Int32)), (.ref o1)])) _
    refine X6.iaload hx (j := (1:Int32)) (v := (.int (0:Int32))) (by rw [e6q]; exact Ar7.1) (State.isArrayOf_alike hZ.alike Ar7.2.1) Ar7.2.2 hin7 (H7.at hin7 rfl) (g := (mkF m 28 #[.val (.ref o0), .val (.ref o1), .val (.long (((1:Int32).toInt64) + ((0:Int32).toInt64))), .second, .val (.ref o1), .val (.int (2:Int32)), .val (.int (1:Int32)), .val (.int (0:Int32))] [(.int (1:Int32)), (.ref o1)])) rfl rfl (hb hby d7_28) _ ?_
    show Steps p.tables e below (T6.setTop (mkF m 29 #[.val (.ref o0), .val (.ref o1), .val (.long (((1:Int32).toInt64) + ((0:Int32).toInt64))), .second, .val (.ref o1), .val (.int (2:Int32)), .val (.int (1:Int32)), .val (.int (0:Int32))] [(.int (0:Int32))])) _
    refine XS.istore X6.here hx rfl (hb hby d7_29) rfl (l' := #[.val (.ref o0), .val (.ref o1), .val (.long (((1:Int32).toInt64) + ((0:Int32).toInt64))), .second, .val (.ref o1), .val (.int (2:Int32)), .val (.int (1:Int32)), .val (.int (0:Int32))]) rfl ?_
    refine XS.lloadN X6.here hx rfl (hb hby d7_31) rfl ?_
    refine XS.aloadN X6.here hx rfl (hb hby d7_32) rfl rfl ?_
    show Steps p.tables e below (T6.setTop (mkF m 33 #[.val (.ref o0), .val (.ref o1), .val (.long (((1:Int32).toInt64) + ((0:Int32).toInt64))), .second, .val (.ref o1), .val (.int (2:Int32)), .val (.int (1:Int32)), .val (.int (0:Int32))] [(.ref o0), (.long (((1:Int32).toInt64) + ((0:Int32).toInt64)))])) _
    refine st8 _ ?_
    show Steps p.tables e below (T8.setTop (mkF m 36 #[.val (.ref o0), .val (.ref o1), .val (.long (((1:Int32).toInt64) + ((0:Int32).toInt64))), .second, .val (.ref o1), .val (.int (2:Int32)), .val (.int (1:Int32)), .val (.int (0:Int32))] [(.ref bn), (.long (((1:Int32).toInt64) + ((0:Int32).toInt64)))])) _
    refine XS.iload X8.here hx rfl (hb hby d7_36) rfl ?_
    show Steps p.tables e below (T8.setTop (mkF m 38 #[.val (.ref o0), .val (.ref o1), .val (.long (((1:Int32).toInt64) + ((0:Int32).toInt64))), .second, .val (.ref o1), .val (.int (2:Int32)), .val (.int (1:Int32)), .val (.int (0:Int32))] [(.int (0:Int32)), (.ref bn), (.long (((1:Int32).toInt64) + ((0:Int32).toInt64)))])) _
    refine X8.iaload hx (j := (0:Int32)) (v := (.int (0:Int32))) (by rw [e8]; exact Ar9.1) (State.isArrayOf_alike hZ.alike Ar9.2.1) Ar9.2.2 hin9 (H9.at hin9 rfl) (g := (mkF m 38 #[.val (.ref o0), .val (.ref o1), .val (.long (((1:Int32).toInt64) + ((0:Int32).toInt64))), .second, .val (.ref o1), .val (.int (2:Int32)), .val (.int (1:Int32)), .val (.int (0:Int32))] [(.int (0:Int32)), (.ref bn), (.long (((1:Int32).toInt64) + ((0:Int32).toInt64)))])) rfl rfl (hb hby d7_38) _ ?_
    show Steps p.tables e below (T8.setTop (mkF m 39 #[.val (.ref o0), .val (.ref o1), .val (.long (((1:Int32).toInt64) + ((0:Int32).toInt64))), .second, .val (.ref o1), .val (.int (2:Int32)), .val (.int (1:Int32)), .val (.int (0:Int32))] [(.int (0:Int32)), (.long (((1:Int32).toInt64) + ((0:Int32).toInt64)))])) _
    refine XS.aloadN X8.here hx rfl (hb hby d7_39) rfl rfl ?_
    refine XS.iload X8.here hx rfl (hb hby d7_40) rfl ?_
    show Steps p.tables e below (T8.setTop (mkF m 42 #[.val (.ref o0), .val (.ref o1), .val (.long (((1:Int32).toInt64) + ((0:Int32).toInt64))), .second, .val (.ref o1), .val (.int (2:Int32)), .val (.int (1:Int32)), .val (.int (0:Int32))] [(.int (0:Int32)), (.ref o0), (.int (0:Int32)), (.long (((1:Int32).toInt64) + ((0:Int32).toInt64)))])) _
    refine st10.trans ?_
    show Steps p.tables e below (T10.setTop (mkF m 45 #[.val (.ref o0), .val (.ref o1), .val (.long (((1:Int32).toInt64) + ((0:Int32).toInt64))), .second, .val (.ref o1), .val (.int (2:Int32)), .val (.int (1:Int32)), .val (.int (0:Int32))] [(.int (0:Int32)), (.int (0:Int32)), (.long (((1:Int32).toInt64) + ((0:Int32).toInt64)))])) _
    refine XS.isub X10.here hx rfl (hb hby d7_45) rfl ?_
    rw [show ((0:Int32) - (0:Int32)) = (0:Int32) from by decide]
    show Steps p.tables e below (T10.setTop (mkF m 46 #[.val (.ref o0), .val (.ref o1), .val (.long (((1:Int32).toInt64) + ((0:Int32).toInt64))), .second, .val (.ref o1), .val (.int (2:Int32)), .val (.int (1:Int32)), .val (.int (0:Int32))] [(.int (0:Int32)), (.long (((1:Int32).toInt64) + ((0:Int32).toInt64)))])) _
    refine XS.i2l X10.here hx rfl (hb hby d7_46) rfl ?_
    refine XS.ladd X10.here hx rfl (hb hby d7_47) rfl ?_
    refine XS.lstoreN X10.here hx rfl (hb hby d7_48) rfl (l' := #[.val (.ref o0), .val (.ref o1), .val (.long ((((1:Int32).toInt64) + ((0:Int32).toInt64)) + ((0:Int32).toInt64))), .second, .val (.ref o1), .val (.int (2:Int32)), .val (.int (1:Int32)), .val (.int (0:Int32))]) rfl ?_
    refine XS.iinc X10.here hx rfl (hb hby d7_49) rfl (l' := #[.val (.ref o0), .val (.ref o1), .val (.long ((((1:Int32).toInt64) + ((0:Int32).toInt64)) + ((0:Int32).toInt64))), .second, .val (.ref o1), .val (.int (2:Int32)), .val (.int (2:Int32)), .val (.int (0:Int32))]) rfl ?_
    refine XS.goto X10.here hx rfl (pc0 := 52) (pc' := 17) rfl (hb hby d7_52) (by decide) (by decide) ?_
    refine XS.iload X10.here hx rfl (hb hby d7_17) rfl ?_
    refine XS.iload X10.here hx rfl (hb hby d7_19) rfl ?_
    refine XS.icmpYes X10.here hx rfl (pc0 := 21) (pc' := 55) rfl (hb hby d7_21) rfl (flt ((by decide) : ¬ ((2:Int32) < (2:Int32)))).2.1 (by decide) (by decide) ?_
    refine XS.lloadN X10.here hx rfl (hb hby d7_55) rfl ?_
    exact k)
  obtain ⟨rv, hrv⟩ : ∃ z : Int64, z = ((((1:Int32).toInt64) + ((0:Int32).toInt64)) + ((0:Int32).toInt64)) := ⟨_, rfl⟩
  rw [← hrv] at pre11
  obtain ⟨fs, hr, hrun, hended, hW, hsame⟩ := X10.leave (v := some (.long rv)) (fun h => by rw [Bd.returns] at h; cases h)
  refine ⟨_, _, pre11 _ ?_, hrun, hended, _, _, rfl, ?_, ⟨_, rfl⟩, hW, hsame.mono (by decide) (by decide)⟩
  · show Steps p.tables e below (T10.setTop (mkF m 56 #[.val (.ref o0), .val (.ref o1), .val (.long rv), .second, .val (.ref o1), .val (.int (2:Int32)), .val (.int (2:Int32)), .val (.int (0:Int32))] [(.long rv)])) _
    jvm_step X10.here [X10.here.top, hx, (hb hby d7_56), X10.method', Bd.returns, narrow]
    first | (intro acts; rw [hr _ acts rfl rfl rfl]) | rw [hr _ _ rfl rfl rfl]
    exact Steps.refl _
  · show rm7Q Z o0 o1 (2:Int32) h0 n0 _ T10.heap _
    rw [e10q]
    exact ⟨(congrArg (fun z => some (Value.long z)) (hrv.trans (by decide))), N10, rfl⟩
theorem pd_rm7_3_0 : parseMethodDescriptor "(I)I" = some ⟨[.int], some .int⟩ := by decide +kernel
theorem ef_rm7_3 (m : MethodId) (o0 : Nat) (o1 : Nat) : entryFrame m #[(.ref o0), (.ref o1)] 8 = mkF m 0 #[.val (.ref o0), .val (.ref o1), .unset, .unset, .unset, .unset, .unset, .unset] [] := by first | (simp [entryFrame, mkF, argsToLocals, Value.category]; done) | rfl
set_option maxRecDepth 65536 in
set_option maxHeartbeats 40000000 in
theorem rm7_3 (l : Launch) (Z : State) (aw : Array Value) (hw : ∀ d ∈ tables_1, d.before aw Z = true) (ws : List Jvm.Cond) (o0 : Nat) (o1 : Nat) (bn : Nat) (kn k1 : ClassId) (h0 : Heap) (n0 : Nat) (Z0 : n0 ≤ h0.size) (E_o0 : Exa Z h0 o0 "com/example/tavola/tavola/profile/CsvReader") (F_ends : Fld Z h0 o0 "com/example/tavola/tavola/profile/CsvReader" "ends" "[I" (.ref bn)) (V_bn : Arv Z h0 bn kn .int (16:Int32) [] (.int (0:Int32))) (V_o1 : Arv Z h0 o1 k1 .int (3:Int32) [] (.int (0:Int32))) :
    MetFree l (⟨"com/example/tavola/tavola/profile/CsvReader", "keyLength", "([I)J"⟩ : MethodName) (head1 (Jvm.Cond.code (⟨"com/example/tavola/tavola/profile/CsvReader", "keyLength", "([I)J"⟩ : MethodName) prog_81_method_12_code 8 (some .long) :: ws) ({ frames := 1, cells := 0, slots := 0, locals := 16 } : Room)) (fun a U => a = #[(.ref o0), (.ref o1)] ∧ Z.Warmed39 U.vm ∧ U.heap = h0) (fun _ _ _ _ _ => True) (fun _ U o U' => ∃ v L, o = .returned v ∧ rm7Q Z o0 o1 (3:Int32) h0 n0 v U'.heap L ∧ FrameEnd U o U' L ({ frames := 1, cells := 0, slots := 0, locals := 16 } : Room).cells ({ frames := 1, cells := 0, slots := 0, locals := 16 } : Room).slots) := by
  refine MetFree.of_bodySF (plainFor_of_name pn_7) hisR ?_
  intro p e s m args below meth c s₁ Bd hml0 hP hK
  obtain ⟨rfl, hZ, hh⟩ := hP
  have hx := Bd.exec
  have hby := Bd.bytes
  have hml : c.maxLocals = 8 := hml0
  have hown : s.vm.findClass "com/example/tavola/tavola/profile/CsvReader" = some m.cls := findClass_of_methodNamed Bd.named
  have hnm := (name_of_methodNamed Bd.named Bd.method).1
  have X0 : Stand p l e ({ frames := 1, cells := 0, slots := 0, locals := 16 } : Room) s m #[(.ref o0), (.ref o1)] below meth c s₁ [] 0 0 := Stand.of_body Bd
  have e0 : s₁.heap = h0 := by rw [← hh, Bd.state]; rfl
  have N0 := Fr.nil n0
  have pre0 : ∀ t, Steps p.tables e below (s₁.setTop (mkF m 0 #[.val (.ref o0), .val (.ref o1), .unset, .unset, .unset, .unset, .unset, .unset] [])) t → Steps p.tables e below (s₁.setTop (entryFrame m #[(.ref o0), (.ref o1)] 8)) t := fun t k => castTop (ef_rm7_3 m o0 o1) k
  obtain ⟨cl1, Ar1, -, S1, N1', -, -⟩ := id V_o1
  obtain ⟨cl2, Ar2, -, S2, N2', -, -⟩ := id V_o1
  obtain ⟨cl3, Ar3, q3, S3, N3', H3, G3⟩ := id V_o1
  have hin3 : ¬ ((0:Int32) < 0 ∨ cl3.slots.size ≤ ((0:Int32)).toNatClampNeg) := inb_of S3 ⟨by decide, by decide⟩
  obtain ⟨T4, X4, e4, st4⟩ := getF X0 hx hZ hown (host := "") (Or.inl (hw _ (oG (i := 19) rfl))) Via.refl e0 F_ends (g := (mkF m 33 #[.val (.ref o0), .val (.ref o1), .val (.long ((2:Int32).toInt64)), .second, .val (.ref o1), .val (.int (3:Int32)), .val (.int (0:Int32)), .val (.int (0:Int32))] [(.ref o0), (.long ((2:Int32).toInt64))])) rfl rfl (hb hby d7_33)
  obtain ⟨cl5, Ar5, q5, S5, N5', H5, G5⟩ := id V_bn
  have hin5 : ¬ ((0:Int32) < 0 ∨ cl5.slots.size ≤ ((0:Int32)).toNatClampNeg) := inb_of S5 ⟨by decide, by decide⟩
  obtain ⟨cq6, q6, q6'⟩ := (E_o0).cell
  obtain ⟨_, _, ⟨T6, L6, k6, n6⟩, -, X6, ⟨Lc6, hQ6, l6, y6, z6⟩, st6⟩ := X4.privateBack hx (y := (⟨"com/example/tavola/tavola/profile/CsvReader", "start", "(I)I"⟩ : MethodName)) hown (mvT hZ (hw _ (oG (i := 70) rfl))) (mvT hZ (hw _ (oG (i := 71) rfl))) (own_selP hZ (hw _ (oG (i := 3) rfl)) (hw _ (oG (i := 71) rfl)) (hw _ (oG (i := 72) rfl)) (by decide)) (Cond.privateMethod_at (mvP hZ (hw _ (oG (i := 72) rfl)) (args := #[]))) (mvT hZ (hw _ (oG (i := 73) rfl))) (by decide) (backOf (W := 3) (rm8 l Z aw hw [] o0 h0 n0 Z0) hZ (hw _ (oG (i := 73) rfl)) (hw _ (oG (i := 4) rfl)) (by decide) (by decide)) (g := (mkF m 42 #[.val (.ref o0), .val (.ref o1), .val (.long ((2:Int32).toInt64)), .second, .val (.ref o1), .val (.int (3:Int32)), .val (.int (0:Int32)), .val (.int (0:Int32))] [(.int (0:Int32)), (.ref o0), (.int (0:Int32)), (.long ((2:Int32).toInt64))])) rfl (by rw [hml]; rfl) (Steps.refl _) (a := o0) (by rw [e4]; exact q6) q6' (argsL := [(.int (0:Int32))]) (rest := [(.int (0:Int32)), (.long ((2:Int32).toInt64))]) (lenOf pd_rm7_3_0 rfl) rfl (by show 2 * 0 + _ ≤ _; exact Nat.le_of_eq rfl) (hb hby d7_42) (fun _ _ => ⟨rfl, e4, (by decide : 0 + 0 ≤ _), (by decide : 0 + 0 ≤ _)⟩)
  dsimp only [Pt.U, Pt.locs, Pt.cells, Pt.slots] at X6 l6 y6 z6 st6 hQ6
  subst l6 y6 z6
  obtain ⟨rfl, N6q, e6q⟩ := hQ6
  have N6 := Fr.app N0 N6q
  obtain ⟨cl7, Ar7, q7, S7, N7', H7, G7⟩ := id V_o1
  have hin7 : ¬ ((1:Int32) < 0 ∨ cl7.slots.size ≤ ((1:Int32)).toNatClampNeg) := inb_of S7 ⟨by decide, by decide⟩
  obtain ⟨T8, X8, e8, st8⟩ := getF X6 hx hZ hown (host := "") (Or.inl (hw _ (oG (i := 19) rfl))) Via.refl e6q F_ends (g := (mkF m 33 #[.val (.ref o0), .val (.ref o1), .val (.long (((2:Int32).toInt64) + ((0:Int32).toInt64))), .second, .val (.ref o1), .val (.int (3:Int32)), .val (.int (1:Int32)), .val (.int (0:Int32))] [(.ref o0), (.long (((2:Int32).toInt64) + ((0:Int32).toInt64)))])) rfl rfl (hb hby d7_33)
  obtain ⟨cl9, Ar9, q9, S9, N9', H9, G9⟩ := id V_bn
  have hin9 : ¬ ((0:Int32) < 0 ∨ cl9.slots.size ≤ ((0:Int32)).toNatClampNeg) := inb_of S9 ⟨by decide, by decide⟩
  obtain ⟨cq10, q10, q10'⟩ := (E_o0).cell
  obtain ⟨_, _, ⟨T10, L10, k10, n10⟩, -, X10, ⟨Lc10, hQ10, l10, y10, z10⟩, st10⟩ := X8.privateBack hx (y := (⟨"com/example/tavola/tavola/profile/CsvReader", "start", "(I)I"⟩ : MethodName)) hown (mvT hZ (hw _ (oG (i := 70) rfl))) (mvT hZ (hw _ (oG (i := 71) rfl))) (own_selP hZ (hw _ (oG (i := 3) rfl)) (hw _ (oG (i := 71) rfl)) (hw _ (oG (i := 72) rfl)) (by decide)) (Cond.privateMethod_at (mvP hZ (hw _ (oG (i := 72) rfl)) (args := #[]))) (mvT hZ (hw _ (oG (i := 73) rfl))) (by decide) (backOf (W := 3) (rm8 l Z aw hw [] o0 h0 n0 Z0) hZ (hw _ (oG (i := 73) rfl)) (hw _ (oG (i := 4) rfl)) (by decide) (by decide)) (g := (mkF m 42 #[.val (.ref o0), .val (.ref o1), .val (.long (((2:Int32).toInt64) + ((0:Int32).toInt64))), .second, .val (.ref o1), .val (.int (3:Int32)), .val (.int (1:Int32)), .val (.int (0:Int32))] [(.int (0:Int32)), (.ref o0), (.int (0:Int32)), (.long (((2:Int32).toInt64) + ((0:Int32).toInt64)))])) rfl (by rw [hml]; rfl) (Steps.refl _) (a := o0) (by rw [e8]; exact q10) q10' (argsL := [(.int (0:Int32))]) (rest := [(.int (0:Int32)), (.long (((2:Int32).toInt64) + ((0:Int32).toInt64)))]) (lenOf pd_rm7_3_0 rfl) rfl (by show 2 * 0 + _ ≤ _; exact Nat.le_of_eq rfl) (hb hby d7_42) (fun _ _ => ⟨rfl, e8, (by decide : 0 + 0 ≤ _), (by decide : 0 + 0 ≤ _)⟩)
  dsimp only [Pt.U, Pt.locs, Pt.cells, Pt.slots] at X10 l10 y10 z10 st10 hQ10
  subst l10 y10 z10
  obtain ⟨rfl, N10q, e10q⟩ := hQ10
  have N10 := Fr.app N6 N10q
  obtain ⟨cl11, Ar11, q11, S11, N11', H11, G11⟩ := id V_o1
  have hin11 : ¬ ((2:Int32) < 0 ∨ cl11.slots.size ≤ ((2:Int32)).toNatClampNeg) := inb_of S11 ⟨by decide, by decide⟩
  obtain ⟨T12, X12, e12, st12⟩ := getF X10 hx hZ hown (host := "") (Or.inl (hw _ (oG (i := 19) rfl))) Via.refl e10q F_ends (g := (mkF m 33 #[.val (.ref o0), .val (.ref o1), .val (.long ((((2:Int32).toInt64) + ((0:Int32).toInt64)) + ((0:Int32).toInt64))), .second, .val (.ref o1), .val (.int (3:Int32)), .val (.int (2:Int32)), .val (.int (0:Int32))] [(.ref o0), (.long ((((2:Int32).toInt64) + ((0:Int32).toInt64)) + ((0:Int32).toInt64)))])) rfl rfl (hb hby d7_33)
  obtain ⟨cl13, Ar13, q13, S13, N13', H13, G13⟩ := id V_bn
  have hin13 : ¬ ((0:Int32) < 0 ∨ cl13.slots.size ≤ ((0:Int32)).toNatClampNeg) := inb_of S13 ⟨by decide, by decide⟩
  obtain ⟨cq14, q14, q14'⟩ := (E_o0).cell
  obtain ⟨_, _, ⟨T14, L14, k14, n14⟩, -, X14, ⟨Lc14, hQ14, l14, y14, z14⟩, st14⟩ := X12.privateBack hx (y := (⟨"com/example/tavola/tavola/profile/CsvReader", "start", "(I)I"⟩ : MethodName)) hown (mvT hZ (hw _ (oG (i := 70) rfl))) (mvT hZ (hw _ (oG (i := 71) rfl))) (own_selP hZ (hw _ (oG (i := 3) rfl)) (hw _ (oG (i := 71) rfl)) (hw _ (oG (i := 72) rfl)) (by decide)) (Cond.privateMethod_at (mvP hZ (hw _ (oG (i := 72) rfl)) (args := #[]))) (mvT hZ (hw _ (oG (i := 73) rfl))) (by decide) (backOf (W := 3) (rm8 l Z aw hw [] o0 h0 n0 Z0) hZ (hw _ (oG (i := 73) rfl)) (hw _ (oG (i := 4) rfl)) (by decide) (by decide)) (g := (mkF m 42 #[.val (.ref o0), .val (.ref o1), .val (.long ((((2:Int32).toInt64) + ((0:Int32).toInt64)) + ((0:Int32).toInt64))), .second, .val (.ref o1), .val (.int (3:Int32)), .val (.int (2:Int32)), .val (.int (0:Int32))] [(.int (0:Int32)), (.ref o0), (.int (0:Int32)), (.long ((((2:Int32).toInt64) + ((0:Int32).toInt64)) + ((0:Int32).toInt64)))])) rfl (by rw [hml]; rfl) (Steps.refl _) (a := o0) (by rw [e12]; exact q14) q14' (argsL := [(.int (0:Int32))]) (rest := [(.int (0:Int32)), (.long ((((2:Int32).toInt64) + ((0:Int32).toInt64)) + ((0:Int32).toInt64)))]) (lenOf pd_rm7_3_0 rfl) rfl (by show 2 * 0 + _ ≤ _; exact Nat.le_of_eq rfl) (hb hby d7_42) (fun _ _ => ⟨rfl, e12, (by decide : 0 + 0 ≤ _), (by decide : 0 + 0 ≤ _)⟩)
  dsimp only [Pt.U, Pt.locs, Pt.cells, Pt.slots] at X14 l14 y14 z14 st14 hQ14
  subst l14 y14 z14
  obtain ⟨rfl, N14q, e14q⟩ := hQ14
  have N14 := Fr.app N10 N14q
  have pre15 : ∀ t, Steps p.tables e below (T14.setTop (mkF m 56 #[.val (.ref o0), .val (.ref o1), .val (.long (((((2:Int32).toInt64) + ((0:Int32).toInt64)) + ((0:Int32).toInt64)) + ((0:Int32).toInt64))), .second, .val (.ref o1), .val (.int (3:Int32)), .val (.int (3:Int32)), .val (.int (0:Int32))] [(.long (((((2:Int32).toInt64) + ((0:Int32).toInt64)) + ((0:Int32).toInt64)) + ((0:Int32).toInt64)))])) t → Steps p.tables e below (s₁.setTop (entryFrame m #[(.ref o0), (.ref o1)] 8)) t := fun t k => pre0 t (by
    show Steps p.tables e below (s₁.setTop (mkF m 0 #[.val (.ref o0), .val (.ref o1), .unset, .unset, .unset, .unset, .unset, .unset] [])) _
    refine XS.aloadN X0.here hx rfl (hb hby d7_0) rfl rfl ?_
    show Steps p.tables e below (s₁.setTop (mkF m 1 #[.val (.ref o0), .val (.ref o1), .unset, .unset, .unset, .unset, .unset, .unset] [(.ref o1)])) _
    refine X0.arraylength hx (by rw [e0]; exact Ar1.1) (State.isArrayOf_alike hZ.alike Ar1.2.1) (g := (mkF m 1 #[.val (.ref o0), .val (.ref o1), .unset, .unset, .unset, .unset, .unset, .unset] [(.ref o1)])) rfl rfl (hb hby d7_1) _ ?_
    rw [len_of S1 N1']
    show Steps p.tables e below (s₁.setTop (mkF m 2 #[.val (.ref o0), .val (.ref o1), .unset, .unset, .unset, .unset, .unset, .unset] [(.int (3:Int32))])) _
    refine XS.iconst X0.here hx rfl (hb hby d7_2) ?_
    show Steps p.tables e below (s₁.setTop (mkF m 3 #[.val (.ref o0), .val (.ref o1), .unset, .unset, .unset, .unset, .unset, .unset] [(.int (1:Int32)), (.int (3:Int32))])) _
    refine XS.isub X0.here hx rfl (hb hby d7_3) rfl ?_
    rw [show ((3:Int32) - (1:Int32)) = (2:Int32) from by decide]
    show Steps p.tables e below (s₁.setTop (mkF m 4 #[.val (.ref o0), .val (.ref o1), .unset, .unset, .unset, .unset, .unset, .unset] [(.int (2:Int32))])) _
    refine XS.i2l X0.here hx rfl (hb hby d7_4) rfl ?_
    refine XS.lstoreN X0.here hx rfl (hb hby d7_5) rfl (l' := #[.val (.ref o0), .val (.ref o1), .val (.long ((2:Int32).toInt64)), .second, .unset, .unset, .unset, .unset]) rfl ?_
    refine XS.aloadN X0.here hx rfl (hb hby d7_6) rfl rfl ?_
    refine XS.astore X0.here hx rfl (hb hby d7_7) rfl rfl (l' := #[.val (.ref o0), .val (.ref o1), .val (.long ((2:Int32).toInt64)), .second, .val (.ref o1), .unset, .unset, .unset]) rfl ?_
    refine XS.aload X0.here hx rfl (hb hby d7_9) rfl rfl ?_
    show Steps p.tables e below (s₁.setTop (mkF m 11 #[.val (.ref o0), .val (.ref o1), .val (.long ((2:Int32).toInt64)), .second, .val (.ref o1), .unset, .unset, .unset] [(.ref o1)])) _
    refine X0.arraylength hx (by rw [e0]; exact Ar2.1) (State.isArrayOf_alike hZ.alike Ar2.2.1) (g := (mkF m 11 #[.val (.ref o0), .val (.ref o1), .val (.long ((2:Int32).toInt64)), .second, .val (.ref o1), .unset, .unset, .unset] [(.ref o1)])) rfl rfl (hb hby d7_11) _ ?_
    rw [len_of S2 N2']
    show Steps p.tables e below (s₁.setTop (mkF m 12 #[.val (.ref o0), .val (.ref o1), .val (.long ((2:Int32).toInt64)), .second, .val (.ref o1), .unset, .unset, .unset] [(.int (3:Int32))])) _
    refine XS.istore X0.here hx rfl (hb hby d7_12) rfl (l' := #[.val (.ref o0), .val (.ref o1), .val (.long ((2:Int32).toInt64)), .second, .val (.ref o1), .val (.int (3:Int32)), .unset, .unset]) rfl ?_
    refine XS.iconst X0.here hx rfl (hb hby d7_14) ?_
    refine XS.istore X0.here hx rfl (hb hby d7_15) rfl (l' := #[.val (.ref o0), .val (.ref o1), .val (.long ((2:Int32).toInt64)), .second, .val (.ref o1), .val (.int (3:Int32)), .val (.int (0:Int32)), .unset]) rfl ?_
    refine XS.iload X0.here hx rfl (hb hby d7_17) rfl ?_
    refine XS.iload X0.here hx rfl (hb hby d7_19) rfl ?_
    refine XS.icmpNo X0.here hx rfl (hb hby d7_21) rfl (tlt ((by decide) : (0:Int32) < (3:Int32))).2.1 ?_
    refine XS.aload X0.here hx rfl (hb hby d7_24) rfl rfl ?_
    refine XS.iload X0.here hx rfl (hb hby d7_26) rfl ?_
    show Steps p.tables e below (s₁.setTop (mkF m 28 #[.val (.ref o0), .val (.ref o1), .val (.long ((2:Int32).toInt64)), .second, .val (.ref o1), .val (.int (3:Int32)), .val (.int (0:Int32)), .unset] [(.int (0:Int32)), (.ref o1)])) _
    refine X0.iaload hx (j := (0:Int32)) (v := (.int (0:Int32))) (by rw [e0]; exact Ar3.1) (State.isArrayOf_alike hZ.alike Ar3.2.1) Ar3.2.2 hin3 (H3.at hin3 rfl) (g := (mkF m 28 #[.val (.ref o0), .val (.ref o1), .val (.long ((2:Int32).toInt64)), .second, .val (.ref o1), .val (.int (3:Int32)), .val (.int (0:Int32)), .unset] [(.int (0:Int32)), (.ref o1)])) rfl rfl (hb hby d7_28) _ ?_
    show Steps p.tables e below (s₁.setTop (mkF m 29 #[.val (.ref o0), .val (.ref o1), .val (.long ((2:Int32).toInt64)), .second, .val (.ref o1), .val (.int (3:Int32)), .val (.int (0:Int32)), .unset] [(.int (0:Int32))])) _
    refine XS.istore X0.here hx rfl (hb hby d7_29) rfl (l' := #[.val (.ref o0), .val (.ref o1), .val (.long ((2:Int32).toInt64)), .second, .val (.ref o1), .val (.int (3:Int32)), .val (.int (0:Int32)), .val (.int (0:Int32))]) rfl ?_
    refine XS.lloadN X0.here hx rfl (hb hby d7_31) rfl ?_
    refine XS.aloadN X0.here hx rfl (hb hby d7_32) rfl rfl ?_
    show Steps p.tables e below (s₁.setTop (mkF m 33 #[.val (.ref o0), .val (.ref o1), .val (.long ((2:Int32).toInt64)), .second, .val (.ref o1), .val (.int (3:Int32)), .val (.int (0:Int32)), .val (.int (0:Int32))] [(.ref o0), (.long ((2:Int32).toInt64))])) _
    refine st4 _ ?_
    show Steps p.tables e below (T4.setTop (mkF m 36 #[.val (.ref o0), .val (.ref o1), .val (.long ((2:Int32).toInt64)), .second, .val (.ref o1), .val (.int (3:Int32)), .val (.int (0:Int32)), .val (.int (0:Int32))] [(.ref bn), (.long ((2:Int32).toInt64))])) _
    refine XS.iload X4.here hx rfl (hb hby d7_36) rfl ?_
    show Steps p.tables e below (T4.setTop (mkF m 38 #[.val (.ref o0), .val (.ref o1), .val (.long ((2:Int32).toInt64)), .second, .val (.ref o1), .val (.int (3:Int32)), .val (.int (0:Int32)), .val (.int (0:Int32))] [(.int (0:Int32)), (.ref bn), (.long ((2:Int32).toInt64))])) _
    refine X4.iaload hx (j := (0:Int32)) (v := (.int (0:Int32))) (by rw [e4]; exact Ar5.1) (State.isArrayOf_alike hZ.alike Ar5.2.1) Ar5.2.2 hin5 (H5.at hin5 rfl) (g := (mkF m 38 #[.val (.ref o0), .val (.ref o1), .val (.long ((2:Int32).toInt64)), .second, .val (.ref o1), .val (.int (3:Int32)), .val (.int (0:Int32)), .val (.int (0:Int32))] [(.int (0:Int32)), (.ref bn), (.long ((2:Int32).toInt64))])) rfl rfl (hb hby d7_38) _ ?_
    show Steps p.tables e below (T4.setTop (mkF m 39 #[.val (.ref o0), .val (.ref o1), .val (.long ((2:Int32).toInt64)), .second, .val (.ref o1), .val (.int (3:Int32)), .val (.int (0:Int32)), .val (.int (0:Int32))] [(.int (0:Int32)), (.long ((2:Int32).toInt64))])) _
    refine XS.aloadN X4.here hx rfl (hb hby d7_39) rfl rfl ?_
    refine XS.iload X4.here hx rfl (hb hby d7_40) rfl ?_
    show Steps p.tables e below (T4.setTop (mkF m 42 #[.val (.ref o0), .val (.ref o1), .val (.long ((2:Int32).toInt64)), .second, .val (.ref o1), .val (.int (3:Int32)), .val (.int (0:Int32)), .val (.int (0:Int32))] [(.int (0:Int32)), (.ref o0), (.int (0:Int32)), (.long ((2:Int32).toInt64))])) _
    refine st6.trans ?_
    show Steps p.tables e below (T6.setTop (mkF m 45 #[.val (.ref o0), .val (.ref o1), .val (.long ((2:Int32).toInt64)), .second, .val (.ref o1), .val (.int (3:Int32)), .val (.int (0:Int32)), .val (.int (0:Int32))] [(.int (0:Int32)), (.int (0:Int32)), (.long ((2:Int32).toInt64))])) _
    refine XS.isub X6.here hx rfl (hb hby d7_45) rfl ?_
    rw [show ((0:Int32) - (0:Int32)) = (0:Int32) from by decide]
    show Steps p.tables e below (T6.setTop (mkF m 46 #[.val (.ref o0), .val (.ref o1), .val (.long ((2:Int32).toInt64)), .second, .val (.ref o1), .val (.int (3:Int32)), .val (.int (0:Int32)), .val (.int (0:Int32))] [(.int (0:Int32)), (.long ((2:Int32).toInt64))])) _
    refine XS.i2l X6.here hx rfl (hb hby d7_46) rfl ?_
    refine XS.ladd X6.here hx rfl (hb hby d7_47) rfl ?_
    refine XS.lstoreN X6.here hx rfl (hb hby d7_48) rfl (l' := #[.val (.ref o0), .val (.ref o1), .val (.long (((2:Int32).toInt64) + ((0:Int32).toInt64))), .second, .val (.ref o1), .val (.int (3:Int32)), .val (.int (0:Int32)), .val (.int (0:Int32))]) rfl ?_
    refine XS.iinc X6.here hx rfl (hb hby d7_49) rfl (l' := #[.val (.ref o0), .val (.ref o1), .val (.long (((2:Int32).toInt64) + ((0:Int32).toInt64))), .second, .val (.ref o1), .val (.int (3:Int32)), .val (.int (1:Int32)), .val (.int (0:Int32))]) rfl ?_
    refine XS.goto X6.here hx rfl (pc0 := 52) (pc' := 17) rfl (hb hby d7_52) (by decide) (by decide) ?_
    refine XS.iload X6.here hx rfl (hb hby d7_17) rfl ?_
    refine XS.iload X6.here hx rfl (hb hby d7_19) rfl ?_
    refine XS.icmpNo X6.here hx rfl (hb hby d7_21) rfl (tlt ((by decide) : (1:Int32) < (3:Int32))).2.1 ?_
    refine XS.aload X6.here hx rfl (hb hby d7_24) rfl rfl ?_
    refine XS.iload X6.here hx rfl (hb hby d7_26) rfl ?_
    show Steps p.tables e below (T6.setTop (mkF m 28 #[.val (.ref o0), .val (.ref o1), .val (.long (((2:Int32).toInt64) + ((0:Int32).toInt64))), .second, .val (.ref o1), .val (.int (3:Int32)), .val (.int (1:Int32)), .val (.int (0:Int32))] [(.int (1:Int32)), (.ref o1)])) _
    refine X6.iaload hx (j := (1:Int32)) (v := (.int (0:Int32))) (by rw [e6q]; exact Ar7.1) (State.isArrayOf_alike hZ.alike Ar7.2.1) Ar7.2.2 hin7 (H7.at hin7 rfl) (g := (mkF m 28 #[.val (.ref o0), .val (.ref o1), .val (.long (((2:Int32).toInt64) + ((0:Int32).toInt64))), .second, .val (.ref o1), .val (.int (3:Int32)), .val (.int (1:Int32)), .val (.int (0:Int32))] [(.int (1:Int32)), (.ref o1)])) rfl rfl (hb hby d7_28) _ ?_
    show Steps p.tables e below (T6.setTop (mkF m 29 #[.val (.ref o0), .val (.ref o1), .val (.long (((2:Int32).toInt64) + ((0:Int32).toInt64))), .second, .val (.ref o1), .val (.int (3:Int32)), .val (.int (1:Int32)), .val (.int (0:Int32))] [(.int (0:Int32))])) _
    refine XS.istore X6.here hx rfl (hb hby d7_29) rfl (l' := #[.val (.ref o0), .val (.ref o1), .val (.long (((2:Int32).toInt64) + ((0:Int32).toInt64))), .second, .val (.ref o1), .val (.int (3:Int32)), .val (.int (1:Int32)), .val (.int (0:Int32))]) rfl ?_
    refine XS.lloadN X6.here hx rfl (hb hby d7_31) rfl ?_
    refine XS.aloadN X6.here hx rfl (hb hby d7_32) rfl rfl ?_
    show Steps p.tables e below (T6.setTop (mkF m 33 #[.val (.ref o0), .val (.ref o1), .val (.long (((2:Int32).toInt64) + ((0:Int32).toInt64))), .second, .val (.ref o1), .val (.int (3:Int32)), .val (.int (1:Int32)), .val (.int (0:Int32))] [(.ref o0), (.long (((2:Int32).toInt64) + ((0:Int32).toInt64)))])) _
    refine st8 _ ?_
    show Steps p.tables e below (T8.setTop (mkF m 36 #[.val (.ref o0), .val (.ref o1), .val (.long (((2:Int32).toInt64) + ((0:Int32).toInt64))), .second, .val (.ref o1), .val (.int (3:Int32)), .val (.int (1:Int32)), .val (.int (0:Int32))] [(.ref bn), (.long (((2:Int32).toInt64) + ((0:Int32).toInt64)))])) _
    refine XS.iload X8.here hx rfl (hb hby d7_36) rfl ?_
    show Steps p.tables e below (T8.setTop (mkF m 38 #[.val (.ref o0), .val (.ref o1), .val (.long (((2:Int32).toInt64) + ((0:Int32).toInt64))), .second, .val (.ref o1), .val (.int (3:Int32)), .val (.int (1:Int32)), .val (.int (0:Int32))] [(.int (0:Int32)), (.ref bn), (.long (((2:Int32).toInt64) + ((0:Int32).toInt64)))])) _
    refine X8.iaload hx (j := (0:Int32)) (v := (.int (0:Int32))) (by rw [e8]; exact Ar9.1) (State.isArrayOf_alike hZ.alike Ar9.2.1) Ar9.2.2 hin9 (H9.at hin9 rfl) (g := (mkF m 38 #[.val (.ref o0), .val (.ref o1), .val (.long (((2:Int32).toInt64) + ((0:Int32).toInt64))), .second, .val (.ref o1), .val (.int (3:Int32)), .val (.int (1:Int32)), .val (.int (0:Int32))] [(.int (0:Int32)), (.ref bn), (.long (((2:Int32).toInt64) + ((0:Int32).toInt64)))])) rfl rfl (hb hby d7_38) _ ?_
    show Steps p.tables e below (T8.setTop (mkF m 39 #[.val (.ref o0), .val (.ref o1), .val (.long (((2:Int32).toInt64) + ((0:Int32).toInt64))), .second, .val (.ref o1), .val (.int (3:Int32)), .val (.int (1:Int32)), .val (.int (0:Int32))] [(.int (0:Int32)), (.long (((2:Int32).toInt64) + ((0:Int32).toInt64)))])) _
    refine XS.aloadN X8.here hx rfl (hb hby d7_39) rfl rfl ?_
    refine XS.iload X8.here hx rfl (hb hby d7_40) rfl ?_
    show Steps p.tables e below (T8.setTop (mkF m 42 #[.val (.ref o0), .val (.ref o1), .val (.long (((2:Int32).toInt64) + ((0:Int32).toInt64))), .second, .val (.ref o1), .val (.int (3:Int32)), .val (.int (1:Int32)), .val (.int (0:Int32))] [(.int (0:Int32)), (.ref o0), (.int (0:Int32)), (.long (((2:Int32).toInt64) + ((0:Int32).toInt64)))])) _
    refine st10.trans ?_
    show Steps p.tables e below (T10.setTop (mkF m 45 #[.val (.ref o0), .val (.ref o1), .val (.long (((2:Int32).toInt64) + ((0:Int32).toInt64))), .second, .val (.ref o1), .val (.int (3:Int32)), .val (.int (1:Int32)), .val (.int (0:Int32))] [(.int (0:Int32)), (.int (0:Int32)), (.long (((2:Int32).toInt64) + ((0:Int32).toInt64)))])) _
    refine XS.isub X10.here hx rfl (hb hby d7_45) rfl ?_
    rw [show ((0:Int32) - (0:Int32)) = (0:Int32) from by decide]
    show Steps p.tables e below (T10.setTop (mkF m 46 #[.val (.ref o0), .val (.ref o1), .val (.long (((2:Int32).toInt64) + ((0:Int32).toInt64))), .second, .val (.ref o1), .val (.int (3:Int32)), .val (.int (1:Int32)), .val (.int (0:Int32))] [(.int (0:Int32)), (.long (((2:Int32).toInt64) + ((0:Int32).toInt64)))])) _
    refine XS.i2l X10.here hx rfl (hb hby d7_46) rfl ?_
    refine XS.ladd X10.here hx rfl (hb hby d7_47) rfl ?_
    refine XS.lstoreN X10.here hx rfl (hb hby d7_48) rfl (l' := #[.val (.ref o0), .val (.ref o1), .val (.long ((((2:Int32).toInt64) + ((0:Int32).toInt64)) + ((0:Int32).toInt64))), .second, .val (.ref o1), .val (.int (3:Int32)), .val (.int (1:Int32)), .val (.int (0:Int32))]) rfl ?_
    refine XS.iinc X10.here hx rfl (hb hby d7_49) rfl (l' := #[.val (.ref o0), .val (.ref o1), .val (.long ((((2:Int32).toInt64) + ((0:Int32).toInt64)) + ((0:Int32).toInt64))), .second, .val (.ref o1), .val (.int (3:Int32)), .val (.int (2:Int32)), .val (.int (0:Int32))]) rfl ?_
    refine XS.goto X10.here hx rfl (pc0 := 52) (pc' := 17) rfl (hb hby d7_52) (by decide) (by decide) ?_
    refine XS.iload X10.here hx rfl (hb hby d7_17) rfl ?_
    refine XS.iload X10.here hx rfl (hb hby d7_19) rfl ?_
    refine XS.icmpNo X10.here hx rfl (hb hby d7_21) rfl (tlt ((by decide) : (2:Int32) < (3:Int32))).2.1 ?_
    refine XS.aload X10.here hx rfl (hb hby d7_24) rfl rfl ?_
    refine XS.iload X10.here hx rfl (hb hby d7_26) rfl ?_
    show Steps p.tables e below (T10.setTop (mkF m 28 #[.val (.ref o0), .val (.ref o1), .val (.long ((((2:Int32).toInt64) + ((0:Int32).toInt64)) + ((0:Int32).toInt64))), .second, .val (.ref o1), .val (.int (3:Int32)), .val (.int (2:Int32)), .val (.int (0:Int32))] [(.int (2:Int32)), (.ref o1)])) _
    refine X10.iaload hx (j := (2:Int32)) (v := (.int (0:Int32))) (by rw [e10q]; exact Ar11.1) (State.isArrayOf_alike hZ.alike Ar11.2.1) Ar11.2.2 hin11 (H11.at hin11 rfl) (g := (mkF m 28 #[.val (.ref o0), .val (.ref o1), .val (.long ((((2:Int32).toInt64) + ((0:Int32).toInt64)) + ((0:Int32).toInt64))), .second, .val (.ref o1), .val (.int (3:Int32)), .val (.int (2:Int32)), .val (.int (0:Int32))] [(.int (2:Int32)), (.ref o1)])) rfl rfl (hb hby d7_28) _ ?_
    show Steps p.tables e below (T10.setTop (mkF m 29 #[.val (.ref o0), .val (.ref o1), .val (.long ((((2:Int32).toInt64) + ((0:Int32).toInt64)) + ((0:Int32).toInt64))), .second, .val (.ref o1), .val (.int (3:Int32)), .val (.int (2:Int32)), .val (.int (0:Int32))] [(.int (0:Int32))])) _
    refine XS.istore X10.here hx rfl (hb hby d7_29) rfl (l' := #[.val (.ref o0), .val (.ref o1), .val (.long ((((2:Int32).toInt64) + ((0:Int32).toInt64)) + ((0:Int32).toInt64))), .second, .val (.ref o1), .val (.int (3:Int32)), .val (.int (2:Int32)), .val (.int (0:Int32))]) rfl ?_
    refine XS.lloadN X10.here hx rfl (hb hby d7_31) rfl ?_
    refine XS.aloadN X10.here hx rfl (hb hby d7_32) rfl rfl ?_
    show Steps p.tables e below (T10.setTop (mkF m 33 #[.val (.ref o0), .val (.ref o1), .val (.long ((((2:Int32).toInt64) + ((0:Int32).toInt64)) + ((0:Int32).toInt64))), .second, .val (.ref o1), .val (.int (3:Int32)), .val (.int (2:Int32)), .val (.int (0:Int32))] [(.ref o0), (.long ((((2:Int32).toInt64) + ((0:Int32).toInt64)) + ((0:Int32).toInt64)))])) _
    refine st12 _ ?_
    show Steps p.tables e below (T12.setTop (mkF m 36 #[.val (.ref o0), .val (.ref o1), .val (.long ((((2:Int32).toInt64) + ((0:Int32).toInt64)) + ((0:Int32).toInt64))), .second, .val (.ref o1), .val (.int (3:Int32)), .val (.int (2:Int32)), .val (.int (0:Int32))] [(.ref bn), (.long ((((2:Int32).toInt64) + ((0:Int32).toInt64)) + ((0:Int32).toInt64)))])) _
    refine XS.iload X12.here hx rfl (hb hby d7_36) rfl ?_
    show Steps p.tables e below (T12.setTop (mkF m 38 #[.val (.ref o0), .val (.ref o1), .val (.long ((((2:Int32).toInt64) + ((0:Int32).toInt64)) + ((0:Int32).toInt64))), .second, .val (.ref o1), .val (.int (3:Int32)), .val (.int (2:Int32)), .val (.int (0:Int32))] [(.int (0:Int32)), (.ref bn), (.long ((((2:Int32).toInt64) + ((0:Int32).toInt64)) + ((0:Int32).toInt64)))])) _
    refine X12.iaload hx (j := (0:Int32)) (v := (.int (0:Int32))) (by rw [e12]; exact Ar13.1) (State.isArrayOf_alike hZ.alike Ar13.2.1) Ar13.2.2 hin13 (H13.at hin13 rfl) (g := (mkF m 38 #[.val (.ref o0), .val (.ref o1), .val (.long ((((2:Int32).toInt64) + ((0:Int32).toInt64)) + ((0:Int32).toInt64))), .second, .val (.ref o1), .val (.int (3:Int32)), .val (.int (2:Int32)), .val (.int (0:Int32))] [(.int (0:Int32)), (.ref bn), (.long ((((2:Int32).toInt64) + ((0:Int32).toInt64)) + ((0:Int32).toInt64)))])) rfl rfl (hb hby d7_38) _ ?_
    show Steps p.tables e below (T12.setTop (mkF m 39 #[.val (.ref o0), .val (.ref o1), .val (.long ((((2:Int32).toInt64) + ((0:Int32).toInt64)) + ((0:Int32).toInt64))), .second, .val (.ref o1), .val (.int (3:Int32)), .val (.int (2:Int32)), .val (.int (0:Int32))] [(.int (0:Int32)), (.long ((((2:Int32).toInt64) + ((0:Int32).toInt64)) + ((0:Int32).toInt64)))])) _
    refine XS.aloadN X12.here hx rfl (hb hby d7_39) rfl rfl ?_
    refine XS.iload X12.here hx rfl (hb hby d7_40) rfl ?_
    show Steps p.tables e below (T12.setTop (mkF m 42 #[.val (.ref o0), .val (.ref o1), .val (.long ((((2:Int32).toInt64) + ((0:Int32).toInt64)) + ((0:Int32).toInt64))), .second, .val (.ref o1), .val (.int (3:Int32)), .val (.int (2:Int32)), .val (.int (0:Int32))] [(.int (0:Int32)), (.ref o0), (.int (0:Int32)), (.long ((((2:Int32).toInt64) + ((0:Int32).toInt64)) + ((0:Int32).toInt64)))])) _
    refine st14.trans ?_
    show Steps p.tables e below (T14.setTop (mkF m 45 #[.val (.ref o0), .val (.ref o1), .val (.long ((((2:Int32).toInt64) + ((0:Int32).toInt64)) + ((0:Int32).toInt64))), .second, .val (.ref o1), .val (.int (3:Int32)), .val (.int (2:Int32)), .val (.int (0:Int32))] [(.int (0:Int32)), (.int (0:Int32)), (.long ((((2:Int32).toInt64) + ((0:Int32).toInt64)) + ((0:Int32).toInt64)))])) _
    refine XS.isub X14.here hx rfl (hb hby d7_45) rfl ?_
    rw [show ((0:Int32) - (0:Int32)) = (0:Int32) from by decide]
    show Steps p.tables e below (T14.setTop (mkF m 46 #[.val (.ref o0), .val (.ref o1), .val (.long ((((2:Int32).toInt64) + ((0:Int32).toInt64)) + ((0:Int32).toInt64))), .second, .val (.ref o1), .val (.int (3:Int32)), .val (.int (2:Int32)), .val (.int (0:Int32))] [(.int (0:Int32)), (.long ((((2:Int32).toInt64) + ((0:Int32).toInt64)) + ((0:Int32).toInt64)))])) _
    refine XS.i2l X14.here hx rfl (hb hby d7_46) rfl ?_
    refine XS.ladd X14.here hx rfl (hb hby d7_47) rfl ?_
    refine XS.lstoreN X14.here hx rfl (hb hby d7_48) rfl (l' := #[.val (.ref o0), .val (.ref o1), .val (.long (((((2:Int32).toInt64) + ((0:Int32).toInt64)) + ((0:Int32).toInt64)) + ((0:Int32).toInt64))), .second, .val (.ref o1), .val (.int (3:Int32)), .val (.int (2:Int32)), .val (.int (0:Int32))]) rfl ?_
    refine XS.iinc X14.here hx rfl (hb hby d7_49) rfl (l' := #[.val (.ref o0), .val (.ref o1), .val (.long (((((2:Int32).toInt64) + ((0:Int32).toInt64)) + ((0:Int32).toInt64)) + ((0:Int32).toInt64))), .second, .val (.ref o1), .val (.int (3:Int32)), .val (.int (3:Int32)), .val (.int (0:Int32))]) rfl ?_
    refine XS.goto X14.here hx rfl (pc0 := 52) (pc' := 17) rfl (hb hby d7_52) (by decide) (by decide) ?_
    refine XS.iload X14.here hx rfl (hb hby d7_17) rfl ?_
    refine XS.iload X14.here hx rfl (hb hby d7_19) rfl ?_
    refine XS.icmpYes X14.here hx rfl (pc0 := 21) (pc' := 55) rfl (hb hby d7_21) rfl (flt ((by decide) : ¬ ((3:Int32) < (3:Int32)))).2.1 (by decide) (by decide) ?_
    refine XS.lloadN X14.here hx rfl (hb hby d7_55) rfl ?_
    exact k)
  obtain ⟨rv, hrv⟩ : ∃ z : Int64, z = (((((2:Int32).toInt64) + ((0:Int32).toInt64)) + ((0:Int32).toInt64)) + ((0:Int32).toInt64)) := ⟨_, rfl⟩
  rw [← hrv] at pre15
  obtain ⟨fs, hr, hrun, hended, hW, hsame⟩ := X14.leave (v := some (.long rv)) (fun h => by rw [Bd.returns] at h; cases h)
  refine ⟨_, _, pre15 _ ?_, hrun, hended, _, _, rfl, ?_, ⟨_, rfl⟩, hW, hsame.mono (by decide) (by decide)⟩
  · show Steps p.tables e below (T14.setTop (mkF m 56 #[.val (.ref o0), .val (.ref o1), .val (.long rv), .second, .val (.ref o1), .val (.int (3:Int32)), .val (.int (3:Int32)), .val (.int (0:Int32))] [(.long rv)])) _
    jvm_step X14.here [X14.here.top, hx, (hb hby d7_56), X14.method', Bd.returns, narrow]
    first | (intro acts; rw [hr _ acts rfl rfl rfl]) | rw [hr _ _ rfl rfl rfl]
    exact Steps.refl _
  · show rm7Q Z o0 o1 (3:Int32) h0 n0 _ T14.heap _
    rw [e14q]
    exact ⟨(congrArg (fun z => some (Value.long z)) (hrv.trans (by decide))), N14, rfl⟩
theorem pd_rm7_4_0 : parseMethodDescriptor "(I)I" = some ⟨[.int], some .int⟩ := by decide +kernel
theorem ef_rm7_4 (m : MethodId) (o0 : Nat) (o1 : Nat) : entryFrame m #[(.ref o0), (.ref o1)] 8 = mkF m 0 #[.val (.ref o0), .val (.ref o1), .unset, .unset, .unset, .unset, .unset, .unset] [] := by first | (simp [entryFrame, mkF, argsToLocals, Value.category]; done) | rfl
set_option maxRecDepth 65536 in
set_option maxHeartbeats 40000000 in
theorem rm7_4 (l : Launch) (Z : State) (aw : Array Value) (hw : ∀ d ∈ tables_1, d.before aw Z = true) (ws : List Jvm.Cond) (o0 : Nat) (o1 : Nat) (bn : Nat) (kn k1 : ClassId) (h0 : Heap) (n0 : Nat) (Z0 : n0 ≤ h0.size) (E_o0 : Exa Z h0 o0 "com/example/tavola/tavola/profile/CsvReader") (F_ends : Fld Z h0 o0 "com/example/tavola/tavola/profile/CsvReader" "ends" "[I" (.ref bn)) (V_bn : Arv Z h0 bn kn .int (16:Int32) [] (.int (0:Int32))) (V_o1 : Arv Z h0 o1 k1 .int (4:Int32) [] (.int (0:Int32))) :
    MetFree l (⟨"com/example/tavola/tavola/profile/CsvReader", "keyLength", "([I)J"⟩ : MethodName) (head1 (Jvm.Cond.code (⟨"com/example/tavola/tavola/profile/CsvReader", "keyLength", "([I)J"⟩ : MethodName) prog_81_method_12_code 8 (some .long) :: ws) ({ frames := 1, cells := 0, slots := 0, locals := 16 } : Room)) (fun a U => a = #[(.ref o0), (.ref o1)] ∧ Z.Warmed39 U.vm ∧ U.heap = h0) (fun _ _ _ _ _ => True) (fun _ U o U' => ∃ v L, o = .returned v ∧ rm7Q Z o0 o1 (4:Int32) h0 n0 v U'.heap L ∧ FrameEnd U o U' L ({ frames := 1, cells := 0, slots := 0, locals := 16 } : Room).cells ({ frames := 1, cells := 0, slots := 0, locals := 16 } : Room).slots) := by
  refine MetFree.of_bodySF (plainFor_of_name pn_7) hisR ?_
  intro p e s m args below meth c s₁ Bd hml0 hP hK
  obtain ⟨rfl, hZ, hh⟩ := hP
  have hx := Bd.exec
  have hby := Bd.bytes
  have hml : c.maxLocals = 8 := hml0
  have hown : s.vm.findClass "com/example/tavola/tavola/profile/CsvReader" = some m.cls := findClass_of_methodNamed Bd.named
  have hnm := (name_of_methodNamed Bd.named Bd.method).1
  have X0 : Stand p l e ({ frames := 1, cells := 0, slots := 0, locals := 16 } : Room) s m #[(.ref o0), (.ref o1)] below meth c s₁ [] 0 0 := Stand.of_body Bd
  have e0 : s₁.heap = h0 := by rw [← hh, Bd.state]; rfl
  have N0 := Fr.nil n0
  have pre0 : ∀ t, Steps p.tables e below (s₁.setTop (mkF m 0 #[.val (.ref o0), .val (.ref o1), .unset, .unset, .unset, .unset, .unset, .unset] [])) t → Steps p.tables e below (s₁.setTop (entryFrame m #[(.ref o0), (.ref o1)] 8)) t := fun t k => castTop (ef_rm7_4 m o0 o1) k
  obtain ⟨cl1, Ar1, -, S1, N1', -, -⟩ := id V_o1
  obtain ⟨cl2, Ar2, -, S2, N2', -, -⟩ := id V_o1
  obtain ⟨cl3, Ar3, q3, S3, N3', H3, G3⟩ := id V_o1
  have hin3 : ¬ ((0:Int32) < 0 ∨ cl3.slots.size ≤ ((0:Int32)).toNatClampNeg) := inb_of S3 ⟨by decide, by decide⟩
  obtain ⟨T4, X4, e4, st4⟩ := getF X0 hx hZ hown (host := "") (Or.inl (hw _ (oG (i := 19) rfl))) Via.refl e0 F_ends (g := (mkF m 33 #[.val (.ref o0), .val (.ref o1), .val (.long ((3:Int32).toInt64)), .second, .val (.ref o1), .val (.int (4:Int32)), .val (.int (0:Int32)), .val (.int (0:Int32))] [(.ref o0), (.long ((3:Int32).toInt64))])) rfl rfl (hb hby d7_33)
  obtain ⟨cl5, Ar5, q5, S5, N5', H5, G5⟩ := id V_bn
  have hin5 : ¬ ((0:Int32) < 0 ∨ cl5.slots.size ≤ ((0:Int32)).toNatClampNeg) := inb_of S5 ⟨by decide, by decide⟩
  obtain ⟨cq6, q6, q6'⟩ := (E_o0).cell
  obtain ⟨_, _, ⟨T6, L6, k6, n6⟩, -, X6, ⟨Lc6, hQ6, l6, y6, z6⟩, st6⟩ := X4.privateBack hx (y := (⟨"com/example/tavola/tavola/profile/CsvReader", "start", "(I)I"⟩ : MethodName)) hown (mvT hZ (hw _ (oG (i := 70) rfl))) (mvT hZ (hw _ (oG (i := 71) rfl))) (own_selP hZ (hw _ (oG (i := 3) rfl)) (hw _ (oG (i := 71) rfl)) (hw _ (oG (i := 72) rfl)) (by decide)) (Cond.privateMethod_at (mvP hZ (hw _ (oG (i := 72) rfl)) (args := #[]))) (mvT hZ (hw _ (oG (i := 73) rfl))) (by decide) (backOf (W := 3) (rm8 l Z aw hw [] o0 h0 n0 Z0) hZ (hw _ (oG (i := 73) rfl)) (hw _ (oG (i := 4) rfl)) (by decide) (by decide)) (g := (mkF m 42 #[.val (.ref o0), .val (.ref o1), .val (.long ((3:Int32).toInt64)), .second, .val (.ref o1), .val (.int (4:Int32)), .val (.int (0:Int32)), .val (.int (0:Int32))] [(.int (0:Int32)), (.ref o0), (.int (0:Int32)), (.long ((3:Int32).toInt64))])) rfl (by rw [hml]; rfl) (Steps.refl _) (a := o0) (by rw [e4]; exact q6) q6' (argsL := [(.int (0:Int32))]) (rest := [(.int (0:Int32)), (.long ((3:Int32).toInt64))]) (lenOf pd_rm7_4_0 rfl) rfl (by show 2 * 0 + _ ≤ _; exact Nat.le_of_eq rfl) (hb hby d7_42) (fun _ _ => ⟨rfl, e4, (by decide : 0 + 0 ≤ _), (by decide : 0 + 0 ≤ _)⟩)
  dsimp only [Pt.U, Pt.locs, Pt.cells, Pt.slots] at X6 l6 y6 z6 st6 hQ6
  subst l6 y6 z6
  obtain ⟨rfl, N6q, e6q⟩ := hQ6
  have N6 := Fr.app N0 N6q
  obtain ⟨cl7, Ar7, q7, S7, N7', H7, G7⟩ := id V_o1
  have hin7 : ¬ ((1:Int32) < 0 ∨ cl7.slots.size ≤ ((1:Int32)).toNatClampNeg) := inb_of S7 ⟨by decide, by decide⟩
  obtain ⟨T8, X8, e8, st8⟩ := getF X6 hx hZ hown (host := "") (Or.inl (hw _ (oG (i := 19) rfl))) Via.refl e6q F_ends (g := (mkF m 33 #[.val (.ref o0), .val (.ref o1), .val (.long (((3:Int32).toInt64) + ((0:Int32).toInt64))), .second, .val (.ref o1), .val (.int (4:Int32)), .val (.int (1:Int32)), .val (.int (0:Int32))] [(.ref o0), (.long (((3:Int32).toInt64) + ((0:Int32).toInt64)))])) rfl rfl (hb hby d7_33)
  obtain ⟨cl9, Ar9, q9, S9, N9', H9, G9⟩ := id V_bn
  have hin9 : ¬ ((0:Int32) < 0 ∨ cl9.slots.size ≤ ((0:Int32)).toNatClampNeg) := inb_of S9 ⟨by decide, by decide⟩
  obtain ⟨cq10, q10, q10'⟩ := (E_o0).cell
  obtain ⟨_, _, ⟨T10, L10, k10, n10⟩, -, X10, ⟨Lc10, hQ10, l10, y10, z10⟩, st10⟩ := X8.privateBack hx (y := (⟨"com/example/tavola/tavola/profile/CsvReader", "start", "(I)I"⟩ : MethodName)) hown (mvT hZ (hw _ (oG (i := 70) rfl))) (mvT hZ (hw _ (oG (i := 71) rfl))) (own_selP hZ (hw _ (oG (i := 3) rfl)) (hw _ (oG (i := 71) rfl)) (hw _ (oG (i := 72) rfl)) (by decide)) (Cond.privateMethod_at (mvP hZ (hw _ (oG (i := 72) rfl)) (args := #[]))) (mvT hZ (hw _ (oG (i := 73) rfl))) (by decide) (backOf (W := 3) (rm8 l Z aw hw [] o0 h0 n0 Z0) hZ (hw _ (oG (i := 73) rfl)) (hw _ (oG (i := 4) rfl)) (by decide) (by decide)) (g := (mkF m 42 #[.val (.ref o0), .val (.ref o1), .val (.long (((3:Int32).toInt64) + ((0:Int32).toInt64))), .second, .val (.ref o1), .val (.int (4:Int32)), .val (.int (1:Int32)), .val (.int (0:Int32))] [(.int (0:Int32)), (.ref o0), (.int (0:Int32)), (.long (((3:Int32).toInt64) + ((0:Int32).toInt64)))])) rfl (by rw [hml]; rfl) (Steps.refl _) (a := o0) (by rw [e8]; exact q10) q10' (argsL := [(.int (0:Int32))]) (rest := [(.int (0:Int32)), (.long (((3:Int32).toInt64) + ((0:Int32).toInt64)))]) (lenOf pd_rm7_4_0 rfl) rfl (by show 2 * 0 + _ ≤ _; exact Nat.le_of_eq rfl) (hb hby d7_42) (fun _ _ => ⟨rfl, e8, (by decide : 0 + 0 ≤ _), (by decide : 0 + 0 ≤ _)⟩)
  dsimp only [Pt.U, Pt.locs, Pt.cells, Pt.slots] at X10 l10 y10 z10 st10 hQ10
  subst l10 y10 z10
  obtain ⟨rfl, N10q, e10q⟩ := hQ10
  have N10 := Fr.app N6 N10q
  obtain ⟨cl11, Ar11, q11, S11, N11', H11, G11⟩ := id V_o1
  have hin11 : ¬ ((2:Int32) < 0 ∨ cl11.slots.size ≤ ((2:Int32)).toNatClampNeg) := inb_of S11 ⟨by decide, by decide⟩
  obtain ⟨T12, X12, e12, st12⟩ := getF X10 hx hZ hown (host := "") (Or.inl (hw _ (oG (i := 19) rfl))) Via.refl e10q F_ends (g := (mkF m 33 #[.val (.ref o0), .val (.ref o1), .val (.long ((((3:Int32).toInt64) + ((0:Int32).toInt64)) + ((0:Int32).toInt64))), .second, .val (.ref o1), .val (.int (4:Int32)), .val (.int (2:Int32)), .val (.int (0:Int32))] [(.ref o0), (.long ((((3:Int32).toInt64) + ((0:Int32).toInt64)) + ((0:Int32).toInt64)))])) rfl rfl (hb hby d7_33)
  obtain ⟨cl13, Ar13, q13, S13, N13', H13, G13⟩ := id V_bn
  have hin13 : ¬ ((0:Int32) < 0 ∨ cl13.slots.size ≤ ((0:Int32)).toNatClampNeg) := inb_of S13 ⟨by decide, by decide⟩
  obtain ⟨cq14, q14, q14'⟩ := (E_o0).cell
  obtain ⟨_, _, ⟨T14, L14, k14, n14⟩, -, X14, ⟨Lc14, hQ14, l14, y14, z14⟩, st14⟩ := X12.privateBack hx (y := (⟨"com/example/tavola/tavola/profile/CsvReader", "start", "(I)I"⟩ : MethodName)) hown (mvT hZ (hw _ (oG (i := 70) rfl))) (mvT hZ (hw _ (oG (i := 71) rfl))) (own_selP hZ (hw _ (oG (i := 3) rfl)) (hw _ (oG (i := 71) rfl)) (hw _ (oG (i := 72) rfl)) (by decide)) (Cond.privateMethod_at (mvP hZ (hw _ (oG (i := 72) rfl)) (args := #[]))) (mvT hZ (hw _ (oG (i := 73) rfl))) (by decide) (backOf (W := 3) (rm8 l Z aw hw [] o0 h0 n0 Z0) hZ (hw _ (oG (i := 73) rfl)) (hw _ (oG (i := 4) rfl)) (by decide) (by decide)) (g := (mkF m 42 #[.val (.ref o0), .val (.ref o1), .val (.long ((((3:Int32).toInt64) + ((0:Int32).toInt64)) + ((0:Int32).toInt64))), .second, .val (.ref o1), .val (.int (4:Int32)), .val (.int (2:Int32)), .val (.int (0:Int32))] [(.int (0:Int32)), (.ref o0), (.int (0:Int32)), (.long ((((3:Int32).toInt64) + ((0:Int32).toInt64)) + ((0:Int32).toInt64)))])) rfl (by rw [hml]; rfl) (Steps.refl _) (a := o0) (by rw [e12]; exact q14) q14' (argsL := [(.int (0:Int32))]) (rest := [(.int (0:Int32)), (.long ((((3:Int32).toInt64) + ((0:Int32).toInt64)) + ((0:Int32).toInt64)))]) (lenOf pd_rm7_4_0 rfl) rfl (by show 2 * 0 + _ ≤ _; exact Nat.le_of_eq rfl) (hb hby d7_42) (fun _ _ => ⟨rfl, e12, (by decide : 0 + 0 ≤ _), (by decide : 0 + 0 ≤ _)⟩)
  dsimp only [Pt.U, Pt.locs, Pt.cells, Pt.slots] at X14 l14 y14 z14 st14 hQ14
  subst l14 y14 z14
  obtain ⟨rfl, N14q, e14q⟩ := hQ14
  have N14 := Fr.app N10 N14q
  obtain ⟨cl15, Ar15, q15, S15, N15', H15, G15⟩ := id V_o1
  have hin15 : ¬ ((3:Int32) < 0 ∨ cl15.slots.size ≤ ((3:Int32)).toNatClampNeg) := inb_of S15 ⟨by decide, by decide⟩
  obtain ⟨T16, X16, e16, st16⟩ := getF X14 hx hZ hown (host := "") (Or.inl (hw _ (oG (i := 19) rfl))) Via.refl e14q F_ends (g := (mkF m 33 #[.val (.ref o0), .val (.ref o1), .val (.long (((((3:Int32).toInt64) + ((0:Int32).toInt64)) + ((0:Int32).toInt64)) + ((0:Int32).toInt64))), .second, .val (.ref o1), .val (.int (4:Int32)), .val (.int (3:Int32)), .val (.int (0:Int32))] [(.ref o0), (.long (((((3:Int32).toInt64) + ((0:Int32).toInt64)) + ((0:Int32).toInt64)) + ((0:Int32).toInt64)))])) rfl rfl (hb hby d7_33)
  obtain ⟨cl17, Ar17, q17, S17, N17', H17, G17⟩ := id V_bn
  have hin17 : ¬ ((0:Int32) < 0 ∨ cl17.slots.size ≤ ((0:Int32)).toNatClampNeg) := inb_of S17 ⟨by decide, by decide⟩
  obtain ⟨cq18, q18, q18'⟩ := (E_o0).cell
  obtain ⟨_, _, ⟨T18, L18, k18, n18⟩, -, X18, ⟨Lc18, hQ18, l18, y18, z18⟩, st18⟩ := X16.privateBack hx (y := (⟨"com/example/tavola/tavola/profile/CsvReader", "start", "(I)I"⟩ : MethodName)) hown (mvT hZ (hw _ (oG (i := 70) rfl))) (mvT hZ (hw _ (oG (i := 71) rfl))) (own_selP hZ (hw _ (oG (i := 3) rfl)) (hw _ (oG (i := 71) rfl)) (hw _ (oG (i := 72) rfl)) (by decide)) (Cond.privateMethod_at (mvP hZ (hw _ (oG (i := 72) rfl)) (args := #[]))) (mvT hZ (hw _ (oG (i := 73) rfl))) (by decide) (backOf (W := 3) (rm8 l Z aw hw [] o0 h0 n0 Z0) hZ (hw _ (oG (i := 73) rfl)) (hw _ (oG (i := 4) rfl)) (by decide) (by decide)) (g := (mkF m 42 #[.val (.ref o0), .val (.ref o1), .val (.long (((((3:Int32).toInt64) + ((0:Int32).toInt64)) + ((0:Int32).toInt64)) + ((0:Int32).toInt64))), .second, .val (.ref o1), .val (.int (4:Int32)), .val (.int (3:Int32)), .val (.int (0:Int32))] [(.int (0:Int32)), (.ref o0), (.int (0:Int32)), (.long (((((3:Int32).toInt64) + ((0:Int32).toInt64)) + ((0:Int32).toInt64)) + ((0:Int32).toInt64)))])) rfl (by rw [hml]; rfl) (Steps.refl _) (a := o0) (by rw [e16]; exact q18) q18' (argsL := [(.int (0:Int32))]) (rest := [(.int (0:Int32)), (.long (((((3:Int32).toInt64) + ((0:Int32).toInt64)) + ((0:Int32).toInt64)) + ((0:Int32).toInt64)))]) (lenOf pd_rm7_4_0 rfl) rfl (by show 2 * 0 + _ ≤ _; exact Nat.le_of_eq rfl) (hb hby d7_42) (fun _ _ => ⟨rfl, e16, (by decide : 0 + 0 ≤ _), (by decide : 0 + 0 ≤ _)⟩)
  dsimp only [Pt.U, Pt.locs, Pt.cells, Pt.slots] at X18 l18 y18 z18 st18 hQ18
  subst l18 y18 z18
  obtain ⟨rfl, N18q, e18q⟩ := hQ18
  have N18 := Fr.app N14 N18q
  have pre19 : ∀ t, Steps p.tables e below (T18.setTop (mkF m 56 #[.val (.ref o0), .val (.ref o1), .val (.long ((((((3:Int32).toInt64) + ((0:Int32).toInt64)) + ((0:Int32).toInt64)) + ((0:Int32).toInt64)) + ((0:Int32).toInt64))), .second, .val (.ref o1), .val (.int (4:Int32)), .val (.int (4:Int32)), .val (.int (0:Int32))] [(.long ((((((3:Int32).toInt64) + ((0:Int32).toInt64)) + ((0:Int32).toInt64)) + ((0:Int32).toInt64)) + ((0:Int32).toInt64)))])) t → Steps p.tables e below (s₁.setTop (entryFrame m #[(.ref o0), (.ref o1)] 8)) t := fun t k => pre0 t (by
    show Steps p.tables e below (s₁.setTop (mkF m 0 #[.val (.ref o0), .val (.ref o1), .unset, .unset, .unset, .unset, .unset, .unset] [])) _
    refine XS.aloadN X0.here hx rfl (hb hby d7_0) rfl rfl ?_
    show Steps p.tables e below (s₁.setTop (mkF m 1 #[.val (.ref o0), .val (.ref o1), .unset, .unset, .unset, .unset, .unset, .unset] [(.ref o1)])) _
    refine X0.arraylength hx (by rw [e0]; exact Ar1.1) (State.isArrayOf_alike hZ.alike Ar1.2.1) (g := (mkF m 1 #[.val (.ref o0), .val (.ref o1), .unset, .unset, .unset, .unset, .unset, .unset] [(.ref o1)])) rfl rfl (hb hby d7_1) _ ?_
    rw [len_of S1 N1']
    show Steps p.tables e below (s₁.setTop (mkF m 2 #[.val (.ref o0), .val (.ref o1), .unset, .unset, .unset, .unset, .unset, .unset] [(.int (4:Int32))])) _
    refine XS.iconst X0.here hx rfl (hb hby d7_2) ?_
    show Steps p.tables e below (s₁.setTop (mkF m 3 #[.val (.ref o0), .val (.ref o1), .unset, .unset, .unset, .unset, .unset, .unset] [(.int (1:Int32)), (.int (4:Int32))])) _
    refine XS.isub X0.here hx rfl (hb hby d7_3) rfl ?_
    rw [show ((4:Int32) - (1:Int32)) = (3:Int32) from by decide]
    show Steps p.tables e below (s₁.setTop (mkF m 4 #[.val (.ref o0), .val (.ref o1), .unset, .unset, .unset, .unset, .unset, .unset] [(.int (3:Int32))])) _
    refine XS.i2l X0.here hx rfl (hb hby d7_4) rfl ?_
    refine XS.lstoreN X0.here hx rfl (hb hby d7_5) rfl (l' := #[.val (.ref o0), .val (.ref o1), .val (.long ((3:Int32).toInt64)), .second, .unset, .unset, .unset, .unset]) rfl ?_
    refine XS.aloadN X0.here hx rfl (hb hby d7_6) rfl rfl ?_
    refine XS.astore X0.here hx rfl (hb hby d7_7) rfl rfl (l' := #[.val (.ref o0), .val (.ref o1), .val (.long ((3:Int32).toInt64)), .second, .val (.ref o1), .unset, .unset, .unset]) rfl ?_
    refine XS.aload X0.here hx rfl (hb hby d7_9) rfl rfl ?_
    show Steps p.tables e below (s₁.setTop (mkF m 11 #[.val (.ref o0), .val (.ref o1), .val (.long ((3:Int32).toInt64)), .second, .val (.ref o1), .unset, .unset, .unset] [(.ref o1)])) _
    refine X0.arraylength hx (by rw [e0]; exact Ar2.1) (State.isArrayOf_alike hZ.alike Ar2.2.1) (g := (mkF m 11 #[.val (.ref o0), .val (.ref o1), .val (.long ((3:Int32).toInt64)), .second, .val (.ref o1), .unset, .unset, .unset] [(.ref o1)])) rfl rfl (hb hby d7_11) _ ?_
    rw [len_of S2 N2']
    show Steps p.tables e below (s₁.setTop (mkF m 12 #[.val (.ref o0), .val (.ref o1), .val (.long ((3:Int32).toInt64)), .second, .val (.ref o1), .unset, .unset, .unset] [(.int (4:Int32))])) _
    refine XS.istore X0.here hx rfl (hb hby d7_12) rfl (l' := #[.val (.ref o0), .val (.ref o1), .val (.long ((3:Int32).toInt64)), .second, .val (.ref o1), .val (.int (4:Int32)), .unset, .unset]) rfl ?_
    refine XS.iconst X0.here hx rfl (hb hby d7_14) ?_
    refine XS.istore X0.here hx rfl (hb hby d7_15) rfl (l' := #[.val (.ref o0), .val (.ref o1), .val (.long ((3:Int32).toInt64)), .second, .val (.ref o1), .val (.int (4:Int32)), .val (.int (0:Int32)), .unset]) rfl ?_
    refine XS.iload X0.here hx rfl (hb hby d7_17) rfl ?_
    refine XS.iload X0.here hx rfl (hb hby d7_19) rfl ?_
    refine XS.icmpNo X0.here hx rfl (hb hby d7_21) rfl (tlt ((by decide) : (0:Int32) < (4:Int32))).2.1 ?_
    refine XS.aload X0.here hx rfl (hb hby d7_24) rfl rfl ?_
    refine XS.iload X0.here hx rfl (hb hby d7_26) rfl ?_
    show Steps p.tables e below (s₁.setTop (mkF m 28 #[.val (.ref o0), .val (.ref o1), .val (.long ((3:Int32).toInt64)), .second, .val (.ref o1), .val (.int (4:Int32)), .val (.int (0:Int32)), .unset] [(.int (0:Int32)), (.ref o1)])) _
    refine X0.iaload hx (j := (0:Int32)) (v := (.int (0:Int32))) (by rw [e0]; exact Ar3.1) (State.isArrayOf_alike hZ.alike Ar3.2.1) Ar3.2.2 hin3 (H3.at hin3 rfl) (g := (mkF m 28 #[.val (.ref o0), .val (.ref o1), .val (.long ((3:Int32).toInt64)), .second, .val (.ref o1), .val (.int (4:Int32)), .val (.int (0:Int32)), .unset] [(.int (0:Int32)), (.ref o1)])) rfl rfl (hb hby d7_28) _ ?_
    show Steps p.tables e below (s₁.setTop (mkF m 29 #[.val (.ref o0), .val (.ref o1), .val (.long ((3:Int32).toInt64)), .second, .val (.ref o1), .val (.int (4:Int32)), .val (.int (0:Int32)), .unset] [(.int (0:Int32))])) _
    refine XS.istore X0.here hx rfl (hb hby d7_29) rfl (l' := #[.val (.ref o0), .val (.ref o1), .val (.long ((3:Int32).toInt64)), .second, .val (.ref o1), .val (.int (4:Int32)), .val (.int (0:Int32)), .val (.int (0:Int32))]) rfl ?_
    refine XS.lloadN X0.here hx rfl (hb hby d7_31) rfl ?_
    refine XS.aloadN X0.here hx rfl (hb hby d7_32) rfl rfl ?_
    show Steps p.tables e below (s₁.setTop (mkF m 33 #[.val (.ref o0), .val (.ref o1), .val (.long ((3:Int32).toInt64)), .second, .val (.ref o1), .val (.int (4:Int32)), .val (.int (0:Int32)), .val (.int (0:Int32))] [(.ref o0), (.long ((3:Int32).toInt64))])) _
    refine st4 _ ?_
    show Steps p.tables e below (T4.setTop (mkF m 36 #[.val (.ref o0), .val (.ref o1), .val (.long ((3:Int32).toInt64)), .second, .val (.ref o1), .val (.int (4:Int32)), .val (.int (0:Int32)), .val (.int (0:Int32))] [(.ref bn), (.long ((3:Int32).toInt64))])) _
    refine XS.iload X4.here hx rfl (hb hby d7_36) rfl ?_
    show Steps p.tables e below (T4.setTop (mkF m 38 #[.val (.ref o0), .val (.ref o1), .val (.long ((3:Int32).toInt64)), .second, .val (.ref o1), .val (.int (4:Int32)), .val (.int (0:Int32)), .val (.int (0:Int32))] [(.int (0:Int32)), (.ref bn), (.long ((3:Int32).toInt64))])) _
    refine X4.iaload hx (j := (0:Int32)) (v := (.int (0:Int32))) (by rw [e4]; exact Ar5.1) (State.isArrayOf_alike hZ.alike Ar5.2.1) Ar5.2.2 hin5 (H5.at hin5 rfl) (g := (mkF m 38 #[.val (.ref o0), .val (.ref o1), .val (.long ((3:Int32).toInt64)), .second, .val (.ref o1), .val (.int (4:Int32)), .val (.int (0:Int32)), .val (.int (0:Int32))] [(.int (0:Int32)), (.ref bn), (.long ((3:Int32).toInt64))])) rfl rfl (hb hby d7_38) _ ?_
    show Steps p.tables e below (T4.setTop (mkF m 39 #[.val (.ref o0), .val (.ref o1), .val (.long ((3:Int32).toInt64)), .second, .val (.ref o1), .val (.int (4:Int32)), .val (.int (0:Int32)), .val (.int (0:Int32))] [(.int (0:Int32)), (.long ((3:Int32).toInt64))])) _
    refine XS.aloadN X4.here hx rfl (hb hby d7_39) rfl rfl ?_
    refine XS.iload X4.here hx rfl (hb hby d7_40) rfl ?_
    show Steps p.tables e below (T4.setTop (mkF m 42 #[.val (.ref o0), .val (.ref o1), .val (.long ((3:Int32).toInt64)), .second, .val (.ref o1), .val (.int (4:Int32)), .val (.int (0:Int32)), .val (.int (0:Int32))] [(.int (0:Int32)), (.ref o0), (.int (0:Int32)), (.long ((3:Int32).toInt64))])) _
    refine st6.trans ?_
    show Steps p.tables e below (T6.setTop (mkF m 45 #[.val (.ref o0), .val (.ref o1), .val (.long ((3:Int32).toInt64)), .second, .val (.ref o1), .val (.int (4:Int32)), .val (.int (0:Int32)), .val (.int (0:Int32))] [(.int (0:Int32)), (.int (0:Int32)), (.long ((3:Int32).toInt64))])) _
    refine XS.isub X6.here hx rfl (hb hby d7_45) rfl ?_
    rw [show ((0:Int32) - (0:Int32)) = (0:Int32) from by decide]
    show Steps p.tables e below (T6.setTop (mkF m 46 #[.val (.ref o0), .val (.ref o1), .val (.long ((3:Int32).toInt64)), .second, .val (.ref o1), .val (.int (4:Int32)), .val (.int (0:Int32)), .val (.int (0:Int32))] [(.int (0:Int32)), (.long ((3:Int32).toInt64))])) _
    refine XS.i2l X6.here hx rfl (hb hby d7_46) rfl ?_
    refine XS.ladd X6.here hx rfl (hb hby d7_47) rfl ?_
    refine XS.lstoreN X6.here hx rfl (hb hby d7_48) rfl (l' := #[.val (.ref o0), .val (.ref o1), .val (.long (((3:Int32).toInt64) + ((0:Int32).toInt64))), .second, .val (.ref o1), .val (.int (4:Int32)), .val (.int (0:Int32)), .val (.int (0:Int32))]) rfl ?_
    refine XS.iinc X6.here hx rfl (hb hby d7_49) rfl (l' := #[.val (.ref o0), .val (.ref o1), .val (.long (((3:Int32).toInt64) + ((0:Int32).toInt64))), .second, .val (.ref o1), .val (.int (4:Int32)), .val (.int (1:Int32)), .val (.int (0:Int32))]) rfl ?_
    refine XS.goto X6.here hx rfl (pc0 := 52) (pc' := 17) rfl (hb hby d7_52) (by decide) (by decide) ?_
    refine XS.iload X6.here hx rfl (hb hby d7_17) rfl ?_
    refine XS.iload X6.here hx rfl (hb hby d7_19) rfl ?_
    refine XS.icmpNo X6.here hx rfl (hb hby d7_21) rfl (tlt ((by decide) : (1:Int32) < (4:Int32))).2.1 ?_
    refine XS.aload X6.here hx rfl (hb hby d7_24) rfl rfl ?_
    refine XS.iload X6.here hx rfl (hb hby d7_26) rfl ?_
    show Steps p.tables e below (T6.setTop (mkF m 28 #[.val (.ref o0), .val (.ref o1), .val (.long (((3:Int32).toInt64) + ((0:Int32).toInt64))), .second, .val (.ref o1), .val (.int (4:Int32)), .val (.int (1:Int32)), .val (.int (0:Int32))] [(.int (1:Int32)), (.ref o1)])) _
    refine X6.iaload hx (j := (1:Int32)) (v := (.int (0:Int32))) (by rw [e6q]; exact Ar7.1) (State.isArrayOf_alike hZ.alike Ar7.2.1) Ar7.2.2 hin7 (H7.at hin7 rfl) (g := (mkF m 28 #[.val (.ref o0), .val (.ref o1), .val (.long (((3:Int32).toInt64) + ((0:Int32).toInt64))), .second, .val (.ref o1), .val (.int (4:Int32)), .val (.int (1:Int32)), .val (.int (0:Int32))] [(.int (1:Int32)), (.ref o1)])) rfl rfl (hb hby d7_28) _ ?_
    show Steps p.tables e below (T6.setTop (mkF m 29 #[.val (.ref o0), .val (.ref o1), .val (.long (((3:Int32).toInt64) + ((0:Int32).toInt64))), .second, .val (.ref o1), .val (.int (4:Int32)), .val (.int (1:Int32)), .val (.int (0:Int32))] [(.int (0:Int32))])) _
    refine XS.istore X6.here hx rfl (hb hby d7_29) rfl (l' := #[.val (.ref o0), .val (.ref o1), .val (.long (((3:Int32).toInt64) + ((0:Int32).toInt64))), .second, .val (.ref o1), .val (.int (4:Int32)), .val (.int (1:Int32)), .val (.int (0:Int32))]) rfl ?_
    refine XS.lloadN X6.here hx rfl (hb hby d7_31) rfl ?_
    refine XS.aloadN X6.here hx rfl (hb hby d7_32) rfl rfl ?_
    show Steps p.tables e below (T6.setTop (mkF m 33 #[.val (.ref o0), .val (.ref o1), .val (.long (((3:Int32).toInt64) + ((0:Int32).toInt64))), .second, .val (.ref o1), .val (.int (4:Int32)), .val (.int (1:Int32)), .val (.int (0:Int32))] [(.ref o0), (.long (((3:Int32).toInt64) + ((0:Int32).toInt64)))])) _
    refine st8 _ ?_
    show Steps p.tables e below (T8.setTop (mkF m 36 #[.val (.ref o0), .val (.ref o1), .val (.long (((3:Int32).toInt64) + ((0:Int32).toInt64))), .second, .val (.ref o1), .val (.int (4:Int32)), .val (.int (1:Int32)), .val (.int (0:Int32))] [(.ref bn), (.long (((3:Int32).toInt64) + ((0:Int32).toInt64)))])) _
    refine XS.iload X8.here hx rfl (hb hby d7_36) rfl ?_
    show Steps p.tables e below (T8.setTop (mkF m 38 #[.val (.ref o0), .val (.ref o1), .val (.long (((3:Int32).toInt64) + ((0:Int32).toInt64))), .second, .val (.ref o1), .val (.int (4:Int32)), .val (.int (1:Int32)), .val (.int (0:Int32))] [(.int (0:Int32)), (.ref bn), (.long (((3:Int32).toInt64) + ((0:Int32).toInt64)))])) _
    refine X8.iaload hx (j := (0:Int32)) (v := (.int (0:Int32))) (by rw [e8]; exact Ar9.1) (State.isArrayOf_alike hZ.alike Ar9.2.1) Ar9.2.2 hin9 (H9.at hin9 rfl) (g := (mkF m 38 #[.val (.ref o0), .val (.ref o1), .val (.long (((3:Int32).toInt64) + ((0:Int32).toInt64))), .second, .val (.ref o1), .val (.int (4:Int32)), .val (.int (1:Int32)), .val (.int (0:Int32))] [(.int (0:Int32)), (.ref bn), (.long (((3:Int32).toInt64) + ((0:Int32).toInt64)))])) rfl rfl (hb hby d7_38) _ ?_
    show Steps p.tables e below (T8.setTop (mkF m 39 #[.val (.ref o0), .val (.ref o1), .val (.long (((3:Int32).toInt64) + ((0:Int32).toInt64))), .second, .val (.ref o1), .val (.int (4:Int32)), .val (.int (1:Int32)), .val (.int (0:Int32))] [(.int (0:Int32)), (.long (((3:Int32).toInt64) + ((0:Int32).toInt64)))])) _
    refine XS.aloadN X8.here hx rfl (hb hby d7_39) rfl rfl ?_
    refine XS.iload X8.here hx rfl (hb hby d7_40) rfl ?_
    show Steps p.tables e below (T8.setTop (mkF m 42 #[.val (.ref o0), .val (.ref o1), .val (.long (((3:Int32).toInt64) + ((0:Int32).toInt64))), .second, .val (.ref o1), .val (.int (4:Int32)), .val (.int (1:Int32)), .val (.int (0:Int32))] [(.int (0:Int32)), (.ref o0), (.int (0:Int32)), (.long (((3:Int32).toInt64) + ((0:Int32).toInt64)))])) _
    refine st10.trans ?_
    show Steps p.tables e below (T10.setTop (mkF m 45 #[.val (.ref o0), .val (.ref o1), .val (.long (((3:Int32).toInt64) + ((0:Int32).toInt64))), .second, .val (.ref o1), .val (.int (4:Int32)), .val (.int (1:Int32)), .val (.int (0:Int32))] [(.int (0:Int32)), (.int (0:Int32)), (.long (((3:Int32).toInt64) + ((0:Int32).toInt64)))])) _
    refine XS.isub X10.here hx rfl (hb hby d7_45) rfl ?_
    rw [show ((0:Int32) - (0:Int32)) = (0:Int32) from by decide]
    show Steps p.tables e below (T10.setTop (mkF m 46 #[.val (.ref o0), .val (.ref o1), .val (.long (((3:Int32).toInt64) + ((0:Int32).toInt64))), .second, .val (.ref o1), .val (.int (4:Int32)), .val (.int (1:Int32)), .val (.int (0:Int32))] [(.int (0:Int32)), (.long (((3:Int32).toInt64) + ((0:Int32).toInt64)))])) _
    refine XS.i2l X10.here hx rfl (hb hby d7_46) rfl ?_
    refine XS.ladd X10.here hx rfl (hb hby d7_47) rfl ?_
    refine XS.lstoreN X10.here hx rfl (hb hby d7_48) rfl (l' := #[.val (.ref o0), .val (.ref o1), .val (.long ((((3:Int32).toInt64) + ((0:Int32).toInt64)) + ((0:Int32).toInt64))), .second, .val (.ref o1), .val (.int (4:Int32)), .val (.int (1:Int32)), .val (.int (0:Int32))]) rfl ?_
    refine XS.iinc X10.here hx rfl (hb hby d7_49) rfl (l' := #[.val (.ref o0), .val (.ref o1), .val (.long ((((3:Int32).toInt64) + ((0:Int32).toInt64)) + ((0:Int32).toInt64))), .second, .val (.ref o1), .val (.int (4:Int32)), .val (.int (2:Int32)), .val (.int (0:Int32))]) rfl ?_
    refine XS.goto X10.here hx rfl (pc0 := 52) (pc' := 17) rfl (hb hby d7_52) (by decide) (by decide) ?_
    refine XS.iload X10.here hx rfl (hb hby d7_17) rfl ?_
    refine XS.iload X10.here hx rfl (hb hby d7_19) rfl ?_
    refine XS.icmpNo X10.here hx rfl (hb hby d7_21) rfl (tlt ((by decide) : (2:Int32) < (4:Int32))).2.1 ?_
    refine XS.aload X10.here hx rfl (hb hby d7_24) rfl rfl ?_
    refine XS.iload X10.here hx rfl (hb hby d7_26) rfl ?_
    show Steps p.tables e below (T10.setTop (mkF m 28 #[.val (.ref o0), .val (.ref o1), .val (.long ((((3:Int32).toInt64) + ((0:Int32).toInt64)) + ((0:Int32).toInt64))), .second, .val (.ref o1), .val (.int (4:Int32)), .val (.int (2:Int32)), .val (.int (0:Int32))] [(.int (2:Int32)), (.ref o1)])) _
    refine X10.iaload hx (j := (2:Int32)) (v := (.int (0:Int32))) (by rw [e10q]; exact Ar11.1) (State.isArrayOf_alike hZ.alike Ar11.2.1) Ar11.2.2 hin11 (H11.at hin11 rfl) (g := (mkF m 28 #[.val (.ref o0), .val (.ref o1), .val (.long ((((3:Int32).toInt64) + ((0:Int32).toInt64)) + ((0:Int32).toInt64))), .second, .val (.ref o1), .val (.int (4:Int32)), .val (.int (2:Int32)), .val (.int (0:Int32))] [(.int (2:Int32)), (.ref o1)])) rfl rfl (hb hby d7_28) _ ?_
    show Steps p.tables e below (T10.setTop (mkF m 29 #[.val (.ref o0), .val (.ref o1), .val (.long ((((3:Int32).toInt64) + ((0:Int32).toInt64)) + ((0:Int32).toInt64))), .second, .val (.ref o1), .val (.int (4:Int32)), .val (.int (2:Int32)), .val (.int (0:Int32))] [(.int (0:Int32))])) _
    refine XS.istore X10.here hx rfl (hb hby d7_29) rfl (l' := #[.val (.ref o0), .val (.ref o1), .val (.long ((((3:Int32).toInt64) + ((0:Int32).toInt64)) + ((0:Int32).toInt64))), .second, .val (.ref o1), .val (.int (4:Int32)), .val (.int (2:Int32)), .val (.int (0:Int32))]) rfl ?_
    refine XS.lloadN X10.here hx rfl (hb hby d7_31) rfl ?_
    refine XS.aloadN X10.here hx rfl (hb hby d7_32) rfl rfl ?_
    show Steps p.tables e below (T10.setTop (mkF m 33 #[.val (.ref o0), .val (.ref o1), .val (.long ((((3:Int32).toInt64) + ((0:Int32).toInt64)) + ((0:Int32).toInt64))), .second, .val (.ref o1), .val (.int (4:Int32)), .val (.int (2:Int32)), .val (.int (0:Int32))] [(.ref o0), (.long ((((3:Int32).toInt64) + ((0:Int32).toInt64)) + ((0:Int32).toInt64)))])) _
    refine st12 _ ?_
    show Steps p.tables e below (T12.setTop (mkF m 36 #[.val (.ref o0), .val (.ref o1), .val (.long ((((3:Int32).toInt64) + ((0:Int32).toInt64)) + ((0:Int32).toInt64))), .second, .val (.ref o1), .val (.int (4:Int32)), .val (.int (2:Int32)), .val (.int (0:Int32))] [(.ref bn), (.long ((((3:Int32).toInt64) + ((0:Int32).toInt64)) + ((0:Int32).toInt64)))])) _
    refine XS.iload X12.here hx rfl (hb hby d7_36) rfl ?_
    show Steps p.tables e below (T12.setTop (mkF m 38 #[.val (.ref o0), .val (.ref o1), .val (.long ((((3:Int32).toInt64) + ((0:Int32).toInt64)) + ((0:Int32).toInt64))), .second, .val (.ref o1), .val (.int (4:Int32)), .val (.int (2:Int32)), .val (.int (0:Int32))] [(.int (0:Int32)), (.ref bn), (.long ((((3:Int32).toInt64) + ((0:Int32).toInt64)) + ((0:Int32).toInt64)))])) _
    refine X12.iaload hx (j := (0:Int32)) (v := (.int (0:Int32))) (by rw [e12]; exact Ar13.1) (State.isArrayOf_alike hZ.alike Ar13.2.1) Ar13.2.2 hin13 (H13.at hin13 rfl) (g := (mkF m 38 #[.val (.ref o0), .val (.ref o1), .val (.long ((((3:Int32).toInt64) + ((0:Int32).toInt64)) + ((0:Int32).toInt64))), .second, .val (.ref o1), .val (.int (4:Int32)), .val (.int (2:Int32)), .val (.int (0:Int32))] [(.int (0:Int32)), (.ref bn), (.long ((((3:Int32).toInt64) + ((0:Int32).toInt64)) + ((0:Int32).toInt64)))])) rfl rfl (hb hby d7_38) _ ?_
    show Steps p.tables e below (T12.setTop (mkF m 39 #[.val (.ref o0), .val (.ref o1), .val (.long ((((3:Int32).toInt64) + ((0:Int32).toInt64)) + ((0:Int32).toInt64))), .second, .val (.ref o1), .val (.int (4:Int32)), .val (.int (2:Int32)), .val (.int (0:Int32))] [(.int (0:Int32)), (.long ((((3:Int32).toInt64) + ((0:Int32).toInt64)) + ((0:Int32).toInt64)))])) _
    refine XS.aloadN X12.here hx rfl (hb hby d7_39) rfl rfl ?_
    refine XS.iload X12.here hx rfl (hb hby d7_40) rfl ?_
    show Steps p.tables e below (T12.setTop (mkF m 42 #[.val (.ref o0), .val (.ref o1), .val (.long ((((3:Int32).toInt64) + ((0:Int32).toInt64)) + ((0:Int32).toInt64))), .second, .val (.ref o1), .val (.int (4:Int32)), .val (.int (2:Int32)), .val (.int (0:Int32))] [(.int (0:Int32)), (.ref o0), (.int (0:Int32)), (.long ((((3:Int32).toInt64) + ((0:Int32).toInt64)) + ((0:Int32).toInt64)))])) _
    refine st14.trans ?_
    show Steps p.tables e below (T14.setTop (mkF m 45 #[.val (.ref o0), .val (.ref o1), .val (.long ((((3:Int32).toInt64) + ((0:Int32).toInt64)) + ((0:Int32).toInt64))), .second, .val (.ref o1), .val (.int (4:Int32)), .val (.int (2:Int32)), .val (.int (0:Int32))] [(.int (0:Int32)), (.int (0:Int32)), (.long ((((3:Int32).toInt64) + ((0:Int32).toInt64)) + ((0:Int32).toInt64)))])) _
    refine XS.isub X14.here hx rfl (hb hby d7_45) rfl ?_
    rw [show ((0:Int32) - (0:Int32)) = (0:Int32) from by decide]
    show Steps p.tables e below (T14.setTop (mkF m 46 #[.val (.ref o0), .val (.ref o1), .val (.long ((((3:Int32).toInt64) + ((0:Int32).toInt64)) + ((0:Int32).toInt64))), .second, .val (.ref o1), .val (.int (4:Int32)), .val (.int (2:Int32)), .val (.int (0:Int32))] [(.int (0:Int32)), (.long ((((3:Int32).toInt64) + ((0:Int32).toInt64)) + ((0:Int32).toInt64)))])) _
    refine XS.i2l X14.here hx rfl (hb hby d7_46) rfl ?_
    refine XS.ladd X14.here hx rfl (hb hby d7_47) rfl ?_
    refine XS.lstoreN X14.here hx rfl (hb hby d7_48) rfl (l' := #[.val (.ref o0), .val (.ref o1), .val (.long (((((3:Int32).toInt64) + ((0:Int32).toInt64)) + ((0:Int32).toInt64)) + ((0:Int32).toInt64))), .second, .val (.ref o1), .val (.int (4:Int32)), .val (.int (2:Int32)), .val (.int (0:Int32))]) rfl ?_
    refine XS.iinc X14.here hx rfl (hb hby d7_49) rfl (l' := #[.val (.ref o0), .val (.ref o1), .val (.long (((((3:Int32).toInt64) + ((0:Int32).toInt64)) + ((0:Int32).toInt64)) + ((0:Int32).toInt64))), .second, .val (.ref o1), .val (.int (4:Int32)), .val (.int (3:Int32)), .val (.int (0:Int32))]) rfl ?_
    refine XS.goto X14.here hx rfl (pc0 := 52) (pc' := 17) rfl (hb hby d7_52) (by decide) (by decide) ?_
    refine XS.iload X14.here hx rfl (hb hby d7_17) rfl ?_
    refine XS.iload X14.here hx rfl (hb hby d7_19) rfl ?_
    refine XS.icmpNo X14.here hx rfl (hb hby d7_21) rfl (tlt ((by decide) : (3:Int32) < (4:Int32))).2.1 ?_
    refine XS.aload X14.here hx rfl (hb hby d7_24) rfl rfl ?_
    refine XS.iload X14.here hx rfl (hb hby d7_26) rfl ?_
    show Steps p.tables e below (T14.setTop (mkF m 28 #[.val (.ref o0), .val (.ref o1), .val (.long (((((3:Int32).toInt64) + ((0:Int32).toInt64)) + ((0:Int32).toInt64)) + ((0:Int32).toInt64))), .second, .val (.ref o1), .val (.int (4:Int32)), .val (.int (3:Int32)), .val (.int (0:Int32))] [(.int (3:Int32)), (.ref o1)])) _
    refine X14.iaload hx (j := (3:Int32)) (v := (.int (0:Int32))) (by rw [e14q]; exact Ar15.1) (State.isArrayOf_alike hZ.alike Ar15.2.1) Ar15.2.2 hin15 (H15.at hin15 rfl) (g := (mkF m 28 #[.val (.ref o0), .val (.ref o1), .val (.long (((((3:Int32).toInt64) + ((0:Int32).toInt64)) + ((0:Int32).toInt64)) + ((0:Int32).toInt64))), .second, .val (.ref o1), .val (.int (4:Int32)), .val (.int (3:Int32)), .val (.int (0:Int32))] [(.int (3:Int32)), (.ref o1)])) rfl rfl (hb hby d7_28) _ ?_
    show Steps p.tables e below (T14.setTop (mkF m 29 #[.val (.ref o0), .val (.ref o1), .val (.long (((((3:Int32).toInt64) + ((0:Int32).toInt64)) + ((0:Int32).toInt64)) + ((0:Int32).toInt64))), .second, .val (.ref o1), .val (.int (4:Int32)), .val (.int (3:Int32)), .val (.int (0:Int32))] [(.int (0:Int32))])) _
    refine XS.istore X14.here hx rfl (hb hby d7_29) rfl (l' := #[.val (.ref o0), .val (.ref o1), .val (.long (((((3:Int32).toInt64) + ((0:Int32).toInt64)) + ((0:Int32).toInt64)) + ((0:Int32).toInt64))), .second, .val (.ref o1), .val (.int (4:Int32)), .val (.int (3:Int32)), .val (.int (0:Int32))]) rfl ?_
    refine XS.lloadN X14.here hx rfl (hb hby d7_31) rfl ?_
    refine XS.aloadN X14.here hx rfl (hb hby d7_32) rfl rfl ?_
    show Steps p.tables e below (T14.setTop (mkF m 33 #[.val (.ref o0), .val (.ref o1), .val (.long (((((3:Int32).toInt64) + ((0:Int32).toInt64)) + ((0:Int32).toInt64)) + ((0:Int32).toInt64))), .second, .val (.ref o1), .val (.int (4:Int32)), .val (.int (3:Int32)), .val (.int (0:Int32))] [(.ref o0), (.long (((((3:Int32).toInt64) + ((0:Int32).toInt64)) + ((0:Int32).toInt64)) + ((0:Int32).toInt64)))])) _
    refine st16 _ ?_
    show Steps p.tables e below (T16.setTop (mkF m 36 #[.val (.ref o0), .val (.ref o1), .val (.long (((((3:Int32).toInt64) + ((0:Int32).toInt64)) + ((0:Int32).toInt64)) + ((0:Int32).toInt64))), .second, .val (.ref o1), .val (.int (4:Int32)), .val (.int (3:Int32)), .val (.int (0:Int32))] [(.ref bn), (.long (((((3:Int32).toInt64) + ((0:Int32).toInt64)) + ((0:Int32).toInt64)) + ((0:Int32).toInt64)))])) _
    refine XS.iload X16.here hx rfl (hb hby d7_36) rfl ?_
    show Steps p.tables e below (T16.setTop (mkF m 38 #[.val (.ref o0), .val (.ref o1), .val (.long (((((3:Int32).toInt64) + ((0:Int32).toInt64)) + ((0:Int32).toInt64)) + ((0:Int32).toInt64))), .second, .val (.ref o1), .val (.int (4:Int32)), .val (.int (3:Int32)), .val (.int (0:Int32))] [(.int (0:Int32)), (.ref bn), (.long (((((3:Int32).toInt64) + ((0:Int32).toInt64)) + ((0:Int32).toInt64)) + ((0:Int32).toInt64)))])) _
    refine X16.iaload hx (j := (0:Int32)) (v := (.int (0:Int32))) (by rw [e16]; exact Ar17.1) (State.isArrayOf_alike hZ.alike Ar17.2.1) Ar17.2.2 hin17 (H17.at hin17 rfl) (g := (mkF m 38 #[.val (.ref o0), .val (.ref o1), .val (.long (((((3:Int32).toInt64) + ((0:Int32).toInt64)) + ((0:Int32).toInt64)) + ((0:Int32).toInt64))), .second, .val (.ref o1), .val (.int (4:Int32)), .val (.int (3:Int32)), .val (.int (0:Int32))] [(.int (0:Int32)), (.ref bn), (.long (((((3:Int32).toInt64) + ((0:Int32).toInt64)) + ((0:Int32).toInt64)) + ((0:Int32).toInt64)))])) rfl rfl (hb hby d7_38) _ ?_
    show Steps p.tables e below (T16.setTop (mkF m 39 #[.val (.ref o0), .val (.ref o1), .val (.long (((((3:Int32).toInt64) + ((0:Int32).toInt64)) + ((0:Int32).toInt64)) + ((0:Int32).toInt64))), .second, .val (.ref o1), .val (.int (4:Int32)), .val (.int (3:Int32)), .val (.int (0:Int32))] [(.int (0:Int32)), (.long (((((3:Int32).toInt64) + ((0:Int32).toInt64)) + ((0:Int32).toInt64)) + ((0:Int32).toInt64)))])) _
    refine XS.aloadN X16.here hx rfl (hb hby d7_39) rfl rfl ?_
    refine XS.iload X16.here hx rfl (hb hby d7_40) rfl ?_
    show Steps p.tables e below (T16.setTop (mkF m 42 #[.val (.ref o0), .val (.ref o1), .val (.long (((((3:Int32).toInt64) + ((0:Int32).toInt64)) + ((0:Int32).toInt64)) + ((0:Int32).toInt64))), .second, .val (.ref o1), .val (.int (4:Int32)), .val (.int (3:Int32)), .val (.int (0:Int32))] [(.int (0:Int32)), (.ref o0), (.int (0:Int32)), (.long (((((3:Int32).toInt64) + ((0:Int32).toInt64)) + ((0:Int32).toInt64)) + ((0:Int32).toInt64)))])) _
    refine st18.trans ?_
    show Steps p.tables e below (T18.setTop (mkF m 45 #[.val (.ref o0), .val (.ref o1), .val (.long (((((3:Int32).toInt64) + ((0:Int32).toInt64)) + ((0:Int32).toInt64)) + ((0:Int32).toInt64))), .second, .val (.ref o1), .val (.int (4:Int32)), .val (.int (3:Int32)), .val (.int (0:Int32))] [(.int (0:Int32)), (.int (0:Int32)), (.long (((((3:Int32).toInt64) + ((0:Int32).toInt64)) + ((0:Int32).toInt64)) + ((0:Int32).toInt64)))])) _
    refine XS.isub X18.here hx rfl (hb hby d7_45) rfl ?_
    rw [show ((0:Int32) - (0:Int32)) = (0:Int32) from by decide]
    show Steps p.tables e below (T18.setTop (mkF m 46 #[.val (.ref o0), .val (.ref o1), .val (.long (((((3:Int32).toInt64) + ((0:Int32).toInt64)) + ((0:Int32).toInt64)) + ((0:Int32).toInt64))), .second, .val (.ref o1), .val (.int (4:Int32)), .val (.int (3:Int32)), .val (.int (0:Int32))] [(.int (0:Int32)), (.long (((((3:Int32).toInt64) + ((0:Int32).toInt64)) + ((0:Int32).toInt64)) + ((0:Int32).toInt64)))])) _
    refine XS.i2l X18.here hx rfl (hb hby d7_46) rfl ?_
    refine XS.ladd X18.here hx rfl (hb hby d7_47) rfl ?_
    refine XS.lstoreN X18.here hx rfl (hb hby d7_48) rfl (l' := #[.val (.ref o0), .val (.ref o1), .val (.long ((((((3:Int32).toInt64) + ((0:Int32).toInt64)) + ((0:Int32).toInt64)) + ((0:Int32).toInt64)) + ((0:Int32).toInt64))), .second, .val (.ref o1), .val (.int (4:Int32)), .val (.int (3:Int32)), .val (.int (0:Int32))]) rfl ?_
    refine XS.iinc X18.here hx rfl (hb hby d7_49) rfl (l' := #[.val (.ref o0), .val (.ref o1), .val (.long ((((((3:Int32).toInt64) + ((0:Int32).toInt64)) + ((0:Int32).toInt64)) + ((0:Int32).toInt64)) + ((0:Int32).toInt64))), .second, .val (.ref o1), .val (.int (4:Int32)), .val (.int (4:Int32)), .val (.int (0:Int32))]) rfl ?_
    refine XS.goto X18.here hx rfl (pc0 := 52) (pc' := 17) rfl (hb hby d7_52) (by decide) (by decide) ?_
    refine XS.iload X18.here hx rfl (hb hby d7_17) rfl ?_
    refine XS.iload X18.here hx rfl (hb hby d7_19) rfl ?_
    refine XS.icmpYes X18.here hx rfl (pc0 := 21) (pc' := 55) rfl (hb hby d7_21) rfl (flt ((by decide) : ¬ ((4:Int32) < (4:Int32)))).2.1 (by decide) (by decide) ?_
    refine XS.lloadN X18.here hx rfl (hb hby d7_55) rfl ?_
    exact k)
  obtain ⟨rv, hrv⟩ : ∃ z : Int64, z = ((((((3:Int32).toInt64) + ((0:Int32).toInt64)) + ((0:Int32).toInt64)) + ((0:Int32).toInt64)) + ((0:Int32).toInt64)) := ⟨_, rfl⟩
  rw [← hrv] at pre19
  obtain ⟨fs, hr, hrun, hended, hW, hsame⟩ := X18.leave (v := some (.long rv)) (fun h => by rw [Bd.returns] at h; cases h)
  refine ⟨_, _, pre19 _ ?_, hrun, hended, _, _, rfl, ?_, ⟨_, rfl⟩, hW, hsame.mono (by decide) (by decide)⟩
  · show Steps p.tables e below (T18.setTop (mkF m 56 #[.val (.ref o0), .val (.ref o1), .val (.long rv), .second, .val (.ref o1), .val (.int (4:Int32)), .val (.int (4:Int32)), .val (.int (0:Int32))] [(.long rv)])) _
    jvm_step X18.here [X18.here.top, hx, (hb hby d7_56), X18.method', Bd.returns, narrow]
    first | (intro acts; rw [hr _ acts rfl rfl rfl]) | rw [hr _ _ rfl rfl rfl]
    exact Steps.refl _
  · show rm7Q Z o0 o1 (4:Int32) h0 n0 _ T18.heap _
    rw [e18q]
    exact ⟨(congrArg (fun z => some (Value.long z)) (hrv.trans (by decide))), N18, rfl⟩
theorem rm7 (l : Launch) (Z : State) (aw : Array Value) (hw : ∀ d ∈ tables_1, d.before aw Z = true) (ws : List Jvm.Cond) (o0 : Nat) (o1 : Nat) (bn : Nat) (kn k1 : ClassId) (LL : Int32) (h0 : Heap) (n0 : Nat) (Z0 : n0 ≤ h0.size) (E_o0 : Exa Z h0 o0 "com/example/tavola/tavola/profile/CsvReader") (F_ends : Fld Z h0 o0 "com/example/tavola/tavola/profile/CsvReader" "ends" "[I" (.ref bn)) (V_bn : Arv Z h0 bn kn .int (16:Int32) [] (.int (0:Int32))) (V_o1 : Arv Z h0 o1 k1 .int LL [] (.int (0:Int32))) (hL : LL = (1:Int32) ∨ LL = (2:Int32) ∨ LL = (3:Int32) ∨ LL = (4:Int32)) :
    MetFree l (⟨"com/example/tavola/tavola/profile/CsvReader", "keyLength", "([I)J"⟩ : MethodName) (head1 (Jvm.Cond.code (⟨"com/example/tavola/tavola/profile/CsvReader", "keyLength", "([I)J"⟩ : MethodName) prog_81_method_12_code 8 (some .long) :: ws) ({ frames := 1, cells := 0, slots := 0, locals := 16 } : Room)) (fun a U => a = #[(.ref o0), (.ref o1)] ∧ Z.Warmed39 U.vm ∧ U.heap = h0) (fun _ _ _ _ _ => True) (fun _ U o U' => ∃ v L, o = .returned v ∧ rm7Q Z o0 o1 LL h0 n0 v U'.heap L ∧ FrameEnd U o U' L ({ frames := 1, cells := 0, slots := 0, locals := 16 } : Room).cells ({ frames := 1, cells := 0, slots := 0, locals := 16 } : Room).slots) := by
  rcases hL with rfl | rfl | rfl | rfl
  · exact rm7_1 l Z aw hw ws o0 o1 bn kn k1 h0 n0 Z0 E_o0 F_ends V_bn V_o1
  · exact rm7_2 l Z aw hw ws o0 o1 bn kn k1 h0 n0 Z0 E_o0 F_ends V_bn V_o1
  · exact rm7_3 l Z aw hw ws o0 o1 bn kn k1 h0 n0 Z0 E_o0 F_ends V_bn V_o1
  · exact rm7_4 l Z aw hw ws o0 o1 bn kn k1 h0 n0 Z0 E_o0 F_ends V_bn V_o1
theorem d10_0 : decode prog_81_method_11_code 0 = .ok (.iconst 0, 1) := by decide +kernel
theorem d10_1 : decode prog_81_method_11_code 1 = .ok (.istore_n 2, 1) := by decide +kernel
theorem d10_2 : decode prog_81_method_11_code 2 = .ok (.iconst 0, 1) := by decide +kernel
theorem d10_3 : decode prog_81_method_11_code 3 = .ok (.istore_n 3, 1) := by decide +kernel
theorem d10_4 : decode prog_81_method_11_code 4 = .ok (.iload_n 3, 1) := by decide +kernel
theorem d10_5 : decode prog_81_method_11_code 5 = .ok (.aload_n 1, 1) := by decide +kernel
theorem d10_6 : decode prog_81_method_11_code 6 = .ok (.arraylength, 1) := by decide +kernel
theorem d10_7 : decode prog_81_method_11_code 7 = .ok (.if_icmp .ge 63, 3) := by decide +kernel
theorem d10_10 : decode prog_81_method_11_code 10 = .ok (.iload_n 3, 1) := by decide +kernel
theorem d10_11 : decode prog_81_method_11_code 11 = .ok (.ifCond .le 8, 3) := by decide +kernel
theorem d10_19 : decode prog_81_method_11_code 19 = .ok (.aload_n 0, 1) := by decide +kernel
theorem d10_20 : decode prog_81_method_11_code 20 = .ok (.getfield 21, 3) := by decide +kernel
theorem d10_23 : decode prog_81_method_11_code 23 = .ok (.aload_n 1, 1) := by decide +kernel
theorem d10_24 : decode prog_81_method_11_code 24 = .ok (.iload_n 3, 1) := by decide +kernel
theorem d10_25 : decode prog_81_method_11_code 25 = .ok (.iaload, 1) := by decide +kernel
theorem d10_26 : decode prog_81_method_11_code 26 = .ok (.iaload, 1) := by decide +kernel
theorem d10_27 : decode prog_81_method_11_code 27 = .ok (.istore 4, 2) := by decide +kernel
theorem d10_29 : decode prog_81_method_11_code 29 = .ok (.aload_n 0, 1) := by decide +kernel
theorem d10_30 : decode prog_81_method_11_code 30 = .ok (.aload_n 1, 1) := by decide +kernel
theorem d10_31 : decode prog_81_method_11_code 31 = .ok (.iload_n 3, 1) := by decide +kernel
theorem d10_32 : decode prog_81_method_11_code 32 = .ok (.iaload, 1) := by decide +kernel
theorem d10_33 : decode prog_81_method_11_code 33 = .ok (.invokevirtual 64, 3) := by decide +kernel
theorem d10_36 : decode prog_81_method_11_code 36 = .ok (.istore 5, 2) := by decide +kernel
theorem d10_38 : decode prog_81_method_11_code 38 = .ok (.iload 5, 2) := by decide +kernel
theorem d10_40 : decode prog_81_method_11_code 40 = .ok (.iload 4, 2) := by decide +kernel
theorem d10_42 : decode prog_81_method_11_code 42 = .ok (.if_icmp .ge 22, 3) := by decide +kernel
theorem d10_64 : decode prog_81_method_11_code 64 = .ok (.iinc 3 1, 3) := by decide +kernel
theorem d10_67 : decode prog_81_method_11_code 67 = .ok (.goto (-63), 3) := by decide +kernel
theorem d10_70 : decode prog_81_method_11_code 70 = .ok (.iload_n 2, 1) := by decide +kernel
theorem d10_71 : decode prog_81_method_11_code 71 = .ok (.ireturn, 1) := by decide +kernel
theorem pn_10 : plainName "com/example/tavola/tavola/profile/CsvReader" = true := by first | (simp [plainName, overriddenIn]; done) | decide +kernel
theorem pd_rm10_1_0 : parseMethodDescriptor "(I)I" = some ⟨[.int], some .int⟩ := by decide +kernel
theorem ef_rm10_1 (m : MethodId) (o0 : Nat) (o1 : Nat) : entryFrame m #[(.ref o0), (.ref o1)] 6 = mkF m 0 #[.val (.ref o0), .val (.ref o1), .unset, .unset, .unset, .unset] [] := by first | (simp [entryFrame, mkF, argsToLocals, Value.category]; done) | rfl
def rm10Q (Z : State) (o0 o1 : Nat) (LL : Int32) (h0 : Heap) (n0 : Nat) (v : Option Value) (h : Heap) (L : List Loc) : Prop := v = some (.int (0:Int32)) ∧ Fr n0 L ∧ h = h0
set_option maxRecDepth 65536 in
set_option maxHeartbeats 40000000 in
theorem rm10_1 (l : Launch) (Z : State) (aw : Array Value) (hw : ∀ d ∈ tables_1, d.before aw Z = true) (ws : List Jvm.Cond) (o0 : Nat) (o1 : Nat) (bn : Nat) (kn k1 : ClassId) (h0 : Heap) (n0 : Nat) (Z0 : n0 ≤ h0.size) (E_o0 : Exa Z h0 o0 "com/example/tavola/tavola/profile/CsvReader") (F_ends : Fld Z h0 o0 "com/example/tavola/tavola/profile/CsvReader" "ends" "[I" (.ref bn)) (V_bn : Arv Z h0 bn kn .int (16:Int32) [] (.int (0:Int32))) (V_o1 : Arv Z h0 o1 k1 .int (1:Int32) [] (.int (0:Int32))) :
    MetFree l (⟨"com/example/tavola/tavola/profile/CsvReader", "keyHash", "([I)I"⟩ : MethodName) (head1 (Jvm.Cond.code (⟨"com/example/tavola/tavola/profile/CsvReader", "keyHash", "([I)I"⟩ : MethodName) prog_81_method_11_code 6 (some .int) :: ws) ({ frames := 1, cells := 0, slots := 0, locals := 13 } : Room)) (fun a U => a = #[(.ref o0), (.ref o1)] ∧ Z.Warmed39 U.vm ∧ U.heap = h0) (fun _ _ _ _ _ => True) (fun _ U o U' => ∃ v L, o = .returned v ∧ rm10Q Z o0 o1 (1:Int32) h0 n0 v U'.heap L ∧ FrameEnd U o U' L ({ frames := 1, cells := 0, slots := 0, locals := 13 } : Room).cells ({ frames := 1, cells := 0, slots := 0, locals := 13 } : Room).slots) := by
  refine MetFree.of_bodySF (plainFor_of_name pn_10) hisR ?_
  intro p e s m args below meth c s₁ Bd hml0 hP hK
  obtain ⟨rfl, hZ, hh⟩ := hP
  have hx := Bd.exec
  have hby := Bd.bytes
  have hml : c.maxLocals = 6 := hml0
  have hown : s.vm.findClass "com/example/tavola/tavola/profile/CsvReader" = some m.cls := findClass_of_methodNamed Bd.named
  have hnm := (name_of_methodNamed Bd.named Bd.method).1
  have X0 : Stand p l e ({ frames := 1, cells := 0, slots := 0, locals := 13 } : Room) s m #[(.ref o0), (.ref o1)] below meth c s₁ [] 0 0 := Stand.of_body Bd
  have e0 : s₁.heap = h0 := by rw [← hh, Bd.state]; rfl
  have N0 := Fr.nil n0
  have pre0 : ∀ t, Steps p.tables e below (s₁.setTop (mkF m 0 #[.val (.ref o0), .val (.ref o1), .unset, .unset, .unset, .unset] [])) t → Steps p.tables e below (s₁.setTop (entryFrame m #[(.ref o0), (.ref o1)] 6)) t := fun t k => castTop (ef_rm10_1 m o0 o1) k
  obtain ⟨cl1, Ar1, -, S1, N1', -, -⟩ := id V_o1
  obtain ⟨T2, X2, e2, st2⟩ := getF X0 hx hZ hown (host := "") (Or.inl (hw _ (oG (i := 19) rfl))) Via.refl e0 F_ends (g := (mkF m 20 #[.val (.ref o0), .val (.ref o1), .val (.int (0:Int32)), .val (.int (0:Int32)), .unset, .unset] [(.ref o0)])) rfl rfl (hb hby d10_20)
  obtain ⟨cl3, Ar3, q3, S3, N3', H3, G3⟩ := id V_o1
  have hin3 : ¬ ((0:Int32) < 0 ∨ cl3.slots.size ≤ ((0:Int32)).toNatClampNeg) := inb_of S3 ⟨by decide, by decide⟩
  obtain ⟨cl4, Ar4, q4, S4, N4', H4, G4⟩ := id V_bn
  have hin4 : ¬ ((0:Int32) < 0 ∨ cl4.slots.size ≤ ((0:Int32)).toNatClampNeg) := inb_of S4 ⟨by decide, by decide⟩
  obtain ⟨cl5, Ar5, q5, S5, N5', H5, G5⟩ := id V_o1
  have hin5 : ¬ ((0:Int32) < 0 ∨ cl5.slots.size ≤ ((0:Int32)).toNatClampNeg) := inb_of S5 ⟨by decide, by decide⟩
  obtain ⟨cq6, q6, q6'⟩ := (E_o0).cell
  obtain ⟨_, _, ⟨T6, L6, k6, n6⟩, -, X6, ⟨Lc6, hQ6, l6, y6, z6⟩, st6⟩ := X2.privateBack hx (y := (⟨"com/example/tavola/tavola/profile/CsvReader", "start", "(I)I"⟩ : MethodName)) hown (mvT hZ (hw _ (oG (i := 70) rfl))) (mvT hZ (hw _ (oG (i := 71) rfl))) (own_selP hZ (hw _ (oG (i := 3) rfl)) (hw _ (oG (i := 71) rfl)) (hw _ (oG (i := 72) rfl)) (by decide)) (Cond.privateMethod_at (mvP hZ (hw _ (oG (i := 72) rfl)) (args := #[]))) (mvT hZ (hw _ (oG (i := 73) rfl))) (by decide) (backOf (W := 0) (rm8 l Z aw hw [] o0 h0 n0 Z0) hZ (hw _ (oG (i := 73) rfl)) (hw _ (oG (i := 4) rfl)) (by decide) (by decide)) (g := (mkF m 33 #[.val (.ref o0), .val (.ref o1), .val (.int (0:Int32)), .val (.int (0:Int32)), .val (.int (0:Int32)), .unset] [(.int (0:Int32)), (.ref o0)])) rfl (by rw [hml]; rfl) (Steps.refl _) (a := o0) (by rw [e2]; exact q6) q6' (argsL := [(.int (0:Int32))]) (rest := []) (lenOf pd_rm10_1_0 rfl) rfl (by show 2 * 0 + _ ≤ _; exact Nat.le_of_eq rfl) (hb hby d10_33) (fun _ _ => ⟨rfl, e2, (by decide : 0 + 0 ≤ _), (by decide : 0 + 0 ≤ _)⟩)
  dsimp only [Pt.U, Pt.locs, Pt.cells, Pt.slots] at X6 l6 y6 z6 st6 hQ6
  subst l6 y6 z6
  obtain ⟨rfl, N6q, e6q⟩ := hQ6
  have N6 := Fr.app N0 N6q
  obtain ⟨cl7, Ar7, -, S7, N7', -, -⟩ := id V_o1
  obtain ⟨fs, hr, hrun, hended, hW, hsame⟩ := X6.leave (v := some (.int (0:Int32))) (fun h => by rw [Bd.returns] at h; cases h)
  refine ⟨_, _, pre0 _ ?_, hrun, hended, _, _, rfl, ?_, ⟨_, rfl⟩, hW, hsame.mono (by decide) (by decide)⟩
  · show Steps p.tables e below (s₁.setTop (mkF m 0 #[.val (.ref o0), .val (.ref o1), .unset, .unset, .unset, .unset] [])) _
    refine XS.iconst X0.here hx rfl (hb hby d10_0) ?_
    refine XS.istoreN X0.here hx rfl (hb hby d10_1) rfl (l' := #[.val (.ref o0), .val (.ref o1), .val (.int (0:Int32)), .unset, .unset, .unset]) rfl ?_
    refine XS.iconst X0.here hx rfl (hb hby d10_2) ?_
    refine XS.istoreN X0.here hx rfl (hb hby d10_3) rfl (l' := #[.val (.ref o0), .val (.ref o1), .val (.int (0:Int32)), .val (.int (0:Int32)), .unset, .unset]) rfl ?_
    refine XS.iloadN X0.here hx rfl (hb hby d10_4) rfl ?_
    refine XS.aloadN X0.here hx rfl (hb hby d10_5) rfl rfl ?_
    show Steps p.tables e below (s₁.setTop (mkF m 6 #[.val (.ref o0), .val (.ref o1), .val (.int (0:Int32)), .val (.int (0:Int32)), .unset, .unset] [(.ref o1), (.int (0:Int32))])) _
    refine X0.arraylength hx (by rw [e0]; exact Ar1.1) (State.isArrayOf_alike hZ.alike Ar1.2.1) (g := (mkF m 6 #[.val (.ref o0), .val (.ref o1), .val (.int (0:Int32)), .val (.int (0:Int32)), .unset, .unset] [(.ref o1), (.int (0:Int32))])) rfl rfl (hb hby d10_6) _ ?_
    rw [len_of S1 N1']
    show Steps p.tables e below (s₁.setTop (mkF m 7 #[.val (.ref o0), .val (.ref o1), .val (.int (0:Int32)), .val (.int (0:Int32)), .unset, .unset] [(.int (1:Int32)), (.int (0:Int32))])) _
    refine XS.icmpNo X0.here hx rfl (hb hby d10_7) rfl (tlt ((by decide) : (0:Int32) < (1:Int32))).2.1 ?_
    refine XS.iloadN X0.here hx rfl (hb hby d10_10) rfl ?_
    refine XS.ifYes X0.here hx rfl (pc0 := 11) (pc' := 19) rfl (hb hby d10_11) rfl ((if0 _ _).trans (flt ((by decide) : ¬ ((0:Int32) < (0:Int32)))).2.2.2) (by decide) (by decide) ?_
    refine XS.aloadN X0.here hx rfl (hb hby d10_19) rfl rfl ?_
    show Steps p.tables e below (s₁.setTop (mkF m 20 #[.val (.ref o0), .val (.ref o1), .val (.int (0:Int32)), .val (.int (0:Int32)), .unset, .unset] [(.ref o0)])) _
    refine st2 _ ?_
    show Steps p.tables e below (T2.setTop (mkF m 23 #[.val (.ref o0), .val (.ref o1), .val (.int (0:Int32)), .val (.int (0:Int32)), .unset, .unset] [(.ref bn)])) _
    refine XS.aloadN X2.here hx rfl (hb hby d10_23) rfl rfl ?_
    refine XS.iloadN X2.here hx rfl (hb hby d10_24) rfl ?_
    show Steps p.tables e below (T2.setTop (mkF m 25 #[.val (.ref o0), .val (.ref o1), .val (.int (0:Int32)), .val (.int (0:Int32)), .unset, .unset] [(.int (0:Int32)), (.ref o1), (.ref bn)])) _
    refine X2.iaload hx (j := (0:Int32)) (v := (.int (0:Int32))) (by rw [e2]; exact Ar3.1) (State.isArrayOf_alike hZ.alike Ar3.2.1) Ar3.2.2 hin3 (H3.at hin3 rfl) (g := (mkF m 25 #[.val (.ref o0), .val (.ref o1), .val (.int (0:Int32)), .val (.int (0:Int32)), .unset, .unset] [(.int (0:Int32)), (.ref o1), (.ref bn)])) rfl rfl (hb hby d10_25) _ ?_
    show Steps p.tables e below (T2.setTop (mkF m 26 #[.val (.ref o0), .val (.ref o1), .val (.int (0:Int32)), .val (.int (0:Int32)), .unset, .unset] [(.int (0:Int32)), (.ref bn)])) _
    refine X2.iaload hx (j := (0:Int32)) (v := (.int (0:Int32))) (by rw [e2]; exact Ar4.1) (State.isArrayOf_alike hZ.alike Ar4.2.1) Ar4.2.2 hin4 (H4.at hin4 rfl) (g := (mkF m 26 #[.val (.ref o0), .val (.ref o1), .val (.int (0:Int32)), .val (.int (0:Int32)), .unset, .unset] [(.int (0:Int32)), (.ref bn)])) rfl rfl (hb hby d10_26) _ ?_
    show Steps p.tables e below (T2.setTop (mkF m 27 #[.val (.ref o0), .val (.ref o1), .val (.int (0:Int32)), .val (.int (0:Int32)), .unset, .unset] [(.int (0:Int32))])) _
    refine XS.istore X2.here hx rfl (hb hby d10_27) rfl (l' := #[.val (.ref o0), .val (.ref o1), .val (.int (0:Int32)), .val (.int (0:Int32)), .val (.int (0:Int32)), .unset]) rfl ?_
    refine XS.aloadN X2.here hx rfl (hb hby d10_29) rfl rfl ?_
    refine XS.aloadN X2.here hx rfl (hb hby d10_30) rfl rfl ?_
    refine XS.iloadN X2.here hx rfl (hb hby d10_31) rfl ?_
    show Steps p.tables e below (T2.setTop (mkF m 32 #[.val (.ref o0), .val (.ref o1), .val (.int (0:Int32)), .val (.int (0:Int32)), .val (.int (0:Int32)), .unset] [(.int (0:Int32)), (.ref o1), (.ref o0)])) _
    refine X2.iaload hx (j := (0:Int32)) (v := (.int (0:Int32))) (by rw [e2]; exact Ar5.1) (State.isArrayOf_alike hZ.alike Ar5.2.1) Ar5.2.2 hin5 (H5.at hin5 rfl) (g := (mkF m 32 #[.val (.ref o0), .val (.ref o1), .val (.int (0:Int32)), .val (.int (0:Int32)), .val (.int (0:Int32)), .unset] [(.int (0:Int32)), (.ref o1), (.ref o0)])) rfl rfl (hb hby d10_32) _ ?_
    show Steps p.tables e below (T2.setTop (mkF m 33 #[.val (.ref o0), .val (.ref o1), .val (.int (0:Int32)), .val (.int (0:Int32)), .val (.int (0:Int32)), .unset] [(.int (0:Int32)), (.ref o0)])) _
    refine st6.trans ?_
    show Steps p.tables e below (T6.setTop (mkF m 36 #[.val (.ref o0), .val (.ref o1), .val (.int (0:Int32)), .val (.int (0:Int32)), .val (.int (0:Int32)), .unset] [(.int (0:Int32))])) _
    refine XS.istore X6.here hx rfl (hb hby d10_36) rfl (l' := #[.val (.ref o0), .val (.ref o1), .val (.int (0:Int32)), .val (.int (0:Int32)), .val (.int (0:Int32)), .val (.int (0:Int32))]) rfl ?_
    refine XS.iload X6.here hx rfl (hb hby d10_38) rfl ?_
    refine XS.iload X6.here hx rfl (hb hby d10_40) rfl ?_
    refine XS.icmpYes X6.here hx rfl (pc0 := 42) (pc' := 64) rfl (hb hby d10_42) rfl (flt ((by decide) : ¬ ((0:Int32) < (0:Int32)))).2.1 (by decide) (by decide) ?_
    refine XS.iinc X6.here hx rfl (hb hby d10_64) rfl (l' := #[.val (.ref o0), .val (.ref o1), .val (.int (0:Int32)), .val (.int (1:Int32)), .val (.int (0:Int32)), .val (.int (0:Int32))]) rfl ?_
    refine XS.goto X6.here hx rfl (pc0 := 67) (pc' := 4) rfl (hb hby d10_67) (by decide) (by decide) ?_
    refine XS.iloadN X6.here hx rfl (hb hby d10_4) rfl ?_
    refine XS.aloadN X6.here hx rfl (hb hby d10_5) rfl rfl ?_
    show Steps p.tables e below (T6.setTop (mkF m 6 #[.val (.ref o0), .val (.ref o1), .val (.int (0:Int32)), .val (.int (1:Int32)), .val (.int (0:Int32)), .val (.int (0:Int32))] [(.ref o1), (.int (1:Int32))])) _
    refine X6.arraylength hx (by rw [e6q]; exact Ar7.1) (State.isArrayOf_alike hZ.alike Ar7.2.1) (g := (mkF m 6 #[.val (.ref o0), .val (.ref o1), .val (.int (0:Int32)), .val (.int (1:Int32)), .val (.int (0:Int32)), .val (.int (0:Int32))] [(.ref o1), (.int (1:Int32))])) rfl rfl (hb hby d10_6) _ ?_
    rw [len_of S7 N7']
    show Steps p.tables e below (T6.setTop (mkF m 7 #[.val (.ref o0), .val (.ref o1), .val (.int (0:Int32)), .val (.int (1:Int32)), .val (.int (0:Int32)), .val (.int (0:Int32))] [(.int (1:Int32)), (.int (1:Int32))])) _
    refine XS.icmpYes X6.here hx rfl (pc0 := 7) (pc' := 70) rfl (hb hby d10_7) rfl (flt ((by decide) : ¬ ((1:Int32) < (1:Int32)))).2.1 (by decide) (by decide) ?_
    refine XS.iloadN X6.here hx rfl (hb hby d10_70) rfl ?_
    show Steps p.tables e below (T6.setTop (mkF m 71 #[.val (.ref o0), .val (.ref o1), .val (.int (0:Int32)), .val (.int (1:Int32)), .val (.int (0:Int32)), .val (.int (0:Int32))] [(.int (0:Int32))])) _
    exact retI X6 hx Bd.returns (hb hby d10_71) hr
  · show rm10Q Z o0 o1 (1:Int32) h0 n0 _ T6.heap _
    rw [e6q]
    exact ⟨rfl, N6, rfl⟩
theorem d10_14 : decode prog_81_method_11_code 14 = .ok (.bipush 31, 2) := by decide +kernel
theorem d10_16 : decode prog_81_method_11_code 16 = .ok (.iload_n 2, 1) := by decide +kernel
theorem d10_17 : decode prog_81_method_11_code 17 = .ok (.imul, 1) := by decide +kernel
theorem d10_18 : decode prog_81_method_11_code 18 = .ok (.istore_n 2, 1) := by decide +kernel
theorem pd_rm10_2_0 : parseMethodDescriptor "(I)I" = some ⟨[.int], some .int⟩ := by decide +kernel
theorem ef_rm10_2 (m : MethodId) (o0 : Nat) (o1 : Nat) : entryFrame m #[(.ref o0), (.ref o1)] 6 = mkF m 0 #[.val (.ref o0), .val (.ref o1), .unset, .unset, .unset, .unset] [] := by first | (simp [entryFrame, mkF, argsToLocals, Value.category]; done) | rfl
set_option maxRecDepth 65536 in
set_option maxHeartbeats 40000000 in
theorem rm10_2 (l : Launch) (Z : State) (aw : Array Value) (hw : ∀ d ∈ tables_1, d.before aw Z = true) (ws : List Jvm.Cond) (o0 : Nat) (o1 : Nat) (bn : Nat) (kn k1 : ClassId) (h0 : Heap) (n0 : Nat) (Z0 : n0 ≤ h0.size) (E_o0 : Exa Z h0 o0 "com/example/tavola/tavola/profile/CsvReader") (F_ends : Fld Z h0 o0 "com/example/tavola/tavola/profile/CsvReader" "ends" "[I" (.ref bn)) (V_bn : Arv Z h0 bn kn .int (16:Int32) [] (.int (0:Int32))) (V_o1 : Arv Z h0 o1 k1 .int (2:Int32) [] (.int (0:Int32))) :
    MetFree l (⟨"com/example/tavola/tavola/profile/CsvReader", "keyHash", "([I)I"⟩ : MethodName) (head1 (Jvm.Cond.code (⟨"com/example/tavola/tavola/profile/CsvReader", "keyHash", "([I)I"⟩ : MethodName) prog_81_method_11_code 6 (some .int) :: ws) ({ frames := 1, cells := 0, slots := 0, locals := 13 } : Room)) (fun a U => a = #[(.ref o0), (.ref o1)] ∧ Z.Warmed39 U.vm ∧ U.heap = h0) (fun _ _ _ _ _ => True) (fun _ U o U' => ∃ v L, o = .returned v ∧ rm10Q Z o0 o1 (2:Int32) h0 n0 v U'.heap L ∧ FrameEnd U o U' L ({ frames := 1, cells := 0, slots := 0, locals := 13 } : Room).cells ({ frames := 1, cells := 0, slots := 0, locals := 13 } : Room).slots) := by
  refine MetFree.of_bodySF (plainFor_of_name pn_10) hisR ?_
  intro p e s m args below meth c s₁ Bd hml0 hP hK
  obtain ⟨rfl, hZ, hh⟩ := hP
  have hx := Bd.exec
  have hby := Bd.bytes
  have hml : c.maxLocals = 6 := hml0
  have hown : s.vm.findClass "com/example/tavola/tavola/profile/CsvReader" = some m.cls := findClass_of_methodNamed Bd.named
  have hnm := (name_of_methodNamed Bd.named Bd.method).1
  have X0 : Stand p l e ({ frames := 1, cells := 0, slots := 0, locals := 13 } : Room) s m #[(.ref o0), (.ref o1)] below meth c s₁ [] 0 0 := Stand.of_body Bd
  have e0 : s₁.heap = h0 := by rw [← hh, Bd.state]; rfl
  have N0 := Fr.nil n0
  have pre0 : ∀ t, Steps p.tables e below (s₁.setTop (mkF m 0 #[.val (.ref o0), .val (.ref o1), .unset, .unset, .unset, .unset] [])) t → Steps p.tables e below (s₁.setTop (entryFrame m #[(.ref o0), (.ref o1)] 6)) t := fun t k => castTop (ef_rm10_2 m o0 o1) k
  obtain ⟨cl1, Ar1, -, S1, N1', -, -⟩ := id V_o1
  obtain ⟨T2, X2, e2, st2⟩ := getF X0 hx hZ hown (host := "") (Or.inl (hw _ (oG (i := 19) rfl))) Via.refl e0 F_ends (g := (mkF m 20 #[.val (.ref o0), .val (.ref o1), .val (.int (0:Int32)), .val (.int (0:Int32)), .unset, .unset] [(.ref o0)])) rfl rfl (hb hby d10_20)
  obtain ⟨cl3, Ar3, q3, S3, N3', H3, G3⟩ := id V_o1
  have hin3 : ¬ ((0:Int32) < 0 ∨ cl3.slots.size ≤ ((0:Int32)).toNatClampNeg) := inb_of S3 ⟨by decide, by decide⟩
  obtain ⟨cl4, Ar4, q4, S4, N4', H4, G4⟩ := id V_bn
  have hin4 : ¬ ((0:Int32) < 0 ∨ cl4.slots.size ≤ ((0:Int32)).toNatClampNeg) := inb_of S4 ⟨by decide, by decide⟩
  obtain ⟨cl5, Ar5, q5, S5, N5', H5, G5⟩ := id V_o1
  have hin5 : ¬ ((0:Int32) < 0 ∨ cl5.slots.size ≤ ((0:Int32)).toNatClampNeg) := inb_of S5 ⟨by decide, by decide⟩
  obtain ⟨cq6, q6, q6'⟩ := (E_o0).cell
  obtain ⟨_, _, ⟨T6, L6, k6, n6⟩, -, X6, ⟨Lc6, hQ6, l6, y6, z6⟩, st6⟩ := X2.privateBack hx (y := (⟨"com/example/tavola/tavola/profile/CsvReader", "start", "(I)I"⟩ : MethodName)) hown (mvT hZ (hw _ (oG (i := 70) rfl))) (mvT hZ (hw _ (oG (i := 71) rfl))) (own_selP hZ (hw _ (oG (i := 3) rfl)) (hw _ (oG (i := 71) rfl)) (hw _ (oG (i := 72) rfl)) (by decide)) (Cond.privateMethod_at (mvP hZ (hw _ (oG (i := 72) rfl)) (args := #[]))) (mvT hZ (hw _ (oG (i := 73) rfl))) (by decide) (backOf (W := 0) (rm8 l Z aw hw [] o0 h0 n0 Z0) hZ (hw _ (oG (i := 73) rfl)) (hw _ (oG (i := 4) rfl)) (by decide) (by decide)) (g := (mkF m 33 #[.val (.ref o0), .val (.ref o1), .val (.int (0:Int32)), .val (.int (0:Int32)), .val (.int (0:Int32)), .unset] [(.int (0:Int32)), (.ref o0)])) rfl (by rw [hml]; rfl) (Steps.refl _) (a := o0) (by rw [e2]; exact q6) q6' (argsL := [(.int (0:Int32))]) (rest := []) (lenOf pd_rm10_2_0 rfl) rfl (by show 2 * 0 + _ ≤ _; exact Nat.le_of_eq rfl) (hb hby d10_33) (fun _ _ => ⟨rfl, e2, (by decide : 0 + 0 ≤ _), (by decide : 0 + 0 ≤ _)⟩)
  dsimp only [Pt.U, Pt.locs, Pt.cells, Pt.slots] at X6 l6 y6 z6 st6 hQ6
  subst l6 y6 z6
  obtain ⟨rfl, N6q, e6q⟩ := hQ6
  have N6 := Fr.app N0 N6q
  obtain ⟨cl7, Ar7, -, S7, N7', -, -⟩ := id V_o1
  obtain ⟨T8, X8, e8, st8⟩ := getF X6 hx hZ hown (host := "") (Or.inl (hw _ (oG (i := 19) rfl))) Via.refl e6q F_ends (g := (mkF m 20 #[.val (.ref o0), .val (.ref o1), .val (.int (0:Int32)), .val (.int (1:Int32)), .val (.int (0:Int32)), .val (.int (0:Int32))] [(.ref o0)])) rfl rfl (hb hby d10_20)
  obtain ⟨cl9, Ar9, q9, S9, N9', H9, G9⟩ := id V_o1
  have hin9 : ¬ ((1:Int32) < 0 ∨ cl9.slots.size ≤ ((1:Int32)).toNatClampNeg) := inb_of S9 ⟨by decide, by decide⟩
  obtain ⟨cl10, Ar10, q10, S10, N10', H10, G10⟩ := id V_bn
  have hin10 : ¬ ((0:Int32) < 0 ∨ cl10.slots.size ≤ ((0:Int32)).toNatClampNeg) := inb_of S10 ⟨by decide, by decide⟩
  obtain ⟨cl11, Ar11, q11, S11, N11', H11, G11⟩ := id V_o1
  have hin11 : ¬ ((1:Int32) < 0 ∨ cl11.slots.size ≤ ((1:Int32)).toNatClampNeg) := inb_of S11 ⟨by decide, by decide⟩
  obtain ⟨cq12, q12, q12'⟩ := (E_o0).cell
  obtain ⟨_, _, ⟨T12, L12, k12, n12⟩, -, X12, ⟨Lc12, hQ12, l12, y12, z12⟩, st12⟩ := X8.privateBack hx (y := (⟨"com/example/tavola/tavola/profile/CsvReader", "start", "(I)I"⟩ : MethodName)) hown (mvT hZ (hw _ (oG (i := 70) rfl))) (mvT hZ (hw _ (oG (i := 71) rfl))) (own_selP hZ (hw _ (oG (i := 3) rfl)) (hw _ (oG (i := 71) rfl)) (hw _ (oG (i := 72) rfl)) (by decide)) (Cond.privateMethod_at (mvP hZ (hw _ (oG (i := 72) rfl)) (args := #[]))) (mvT hZ (hw _ (oG (i := 73) rfl))) (by decide) (backOf (W := 0) (rm8 l Z aw hw [] o0 h0 n0 Z0) hZ (hw _ (oG (i := 73) rfl)) (hw _ (oG (i := 4) rfl)) (by decide) (by decide)) (g := (mkF m 33 #[.val (.ref o0), .val (.ref o1), .val (.int (0:Int32)), .val (.int (1:Int32)), .val (.int (0:Int32)), .val (.int (0:Int32))] [(.int (0:Int32)), (.ref o0)])) rfl (by rw [hml]; rfl) (Steps.refl _) (a := o0) (by rw [e8]; exact q12) q12' (argsL := [(.int (0:Int32))]) (rest := []) (lenOf pd_rm10_2_0 rfl) rfl (by show 2 * 0 + _ ≤ _; exact Nat.le_of_eq rfl) (hb hby d10_33) (fun _ _ => ⟨rfl, e8, (by decide : 0 + 0 ≤ _), (by decide : 0 + 0 ≤ _)⟩)
  dsimp only [Pt.U, Pt.locs, Pt.cells, Pt.slots] at X12 l12 y12 z12 st12 hQ12
  subst l12 y12 z12
  obtain ⟨rfl, N12q, e12q⟩ := hQ12
  have N12 := Fr.app N6 N12q
  obtain ⟨cl13, Ar13, -, S13, N13', -, -⟩ := id V_o1
  obtain ⟨fs, hr, hrun, hended, hW, hsame⟩ := X12.leave (v := some (.int (0:Int32))) (fun h => by rw [Bd.returns] at h; cases h)
  refine ⟨_, _, pre0 _ ?_, hrun, hended, _, _, rfl, ?_, ⟨_, rfl⟩, hW, hsame.mono (by decide) (by decide)⟩
  · show Steps p.tables e below (s₁.setTop (mkF m 0 #[.val (.ref o0), .val (.ref o1), .unset, .unset, .unset, .unset] [])) _
    refine XS.iconst X0.here hx rfl (hb hby d10_0) ?_
    refine XS.istoreN X0.here hx rfl (hb hby d10_1) rfl (l' := #[.val (.ref o0), .val (.ref o1), .val (.int (0:Int32)), .unset, .unset, .unset]) rfl ?_
    refine XS.iconst X0.here hx rfl (hb hby d10_2) ?_
    refine XS.istoreN X0.here hx rfl (hb hby d10_3) rfl (l' := #[.val (.ref o0), .val (.ref o1), .val (.int (0:Int32)), .val (.int (0:Int32)), .unset, .unset]) rfl ?_
    refine XS.iloadN X0.here hx rfl (hb hby d10_4) rfl ?_
    refine XS.aloadN X0.here hx rfl (hb hby d10_5) rfl rfl ?_
    show Steps p.tables e below (s₁.setTop (mkF m 6 #[.val (.ref o0), .val (.ref o1), .val (.int (0:Int32)), .val (.int (0:Int32)), .unset, .unset] [(.ref o1), (.int (0:Int32))])) _
    refine X0.arraylength hx (by rw [e0]; exact Ar1.1) (State.isArrayOf_alike hZ.alike Ar1.2.1) (g := (mkF m 6 #[.val (.ref o0), .val (.ref o1), .val (.int (0:Int32)), .val (.int (0:Int32)), .unset, .unset] [(.ref o1), (.int (0:Int32))])) rfl rfl (hb hby d10_6) _ ?_
    rw [len_of S1 N1']
    show Steps p.tables e below (s₁.setTop (mkF m 7 #[.val (.ref o0), .val (.ref o1), .val (.int (0:Int32)), .val (.int (0:Int32)), .unset, .unset] [(.int (2:Int32)), (.int (0:Int32))])) _
    refine XS.icmpNo X0.here hx rfl (hb hby d10_7) rfl (tlt ((by decide) : (0:Int32) < (2:Int32))).2.1 ?_
    refine XS.iloadN X0.here hx rfl (hb hby d10_10) rfl ?_
    refine XS.ifYes X0.here hx rfl (pc0 := 11) (pc' := 19) rfl (hb hby d10_11) rfl ((if0 _ _).trans (flt ((by decide) : ¬ ((0:Int32) < (0:Int32)))).2.2.2) (by decide) (by decide) ?_
    refine XS.aloadN X0.here hx rfl (hb hby d10_19) rfl rfl ?_
    show Steps p.tables e below (s₁.setTop (mkF m 20 #[.val (.ref o0), .val (.ref o1), .val (.int (0:Int32)), .val (.int (0:Int32)), .unset, .unset] [(.ref o0)])) _
    refine st2 _ ?_
    show Steps p.tables e below (T2.setTop (mkF m 23 #[.val (.ref o0), .val (.ref o1), .val (.int (0:Int32)), .val (.int (0:Int32)), .unset, .unset] [(.ref bn)])) _
    refine XS.aloadN X2.here hx rfl (hb hby d10_23) rfl rfl ?_
    refine XS.iloadN X2.here hx rfl (hb hby d10_24) rfl ?_
    show Steps p.tables e below (T2.setTop (mkF m 25 #[.val (.ref o0), .val (.ref o1), .val (.int (0:Int32)), .val (.int (0:Int32)), .unset, .unset] [(.int (0:Int32)), (.ref o1), (.ref bn)])) _
    refine X2.iaload hx (j := (0:Int32)) (v := (.int (0:Int32))) (by rw [e2]; exact Ar3.1) (State.isArrayOf_alike hZ.alike Ar3.2.1) Ar3.2.2 hin3 (H3.at hin3 rfl) (g := (mkF m 25 #[.val (.ref o0), .val (.ref o1), .val (.int (0:Int32)), .val (.int (0:Int32)), .unset, .unset] [(.int (0:Int32)), (.ref o1), (.ref bn)])) rfl rfl (hb hby d10_25) _ ?_
    show Steps p.tables e below (T2.setTop (mkF m 26 #[.val (.ref o0), .val (.ref o1), .val (.int (0:Int32)), .val (.int (0:Int32)), .unset, .unset] [(.int (0:Int32)), (.ref bn)])) _
    refine X2.iaload hx (j := (0:Int32)) (v := (.int (0:Int32))) (by rw [e2]; exact Ar4.1) (State.isArrayOf_alike hZ.alike Ar4.2.1) Ar4.2.2 hin4 (H4.at hin4 rfl) (g := (mkF m 26 #[.val (.ref o0), .val (.ref o1), .val (.int (0:Int32)), .val (.int (0:Int32)), .unset, .unset] [(.int (0:Int32)), (.ref bn)])) rfl rfl (hb hby d10_26) _ ?_
    show Steps p.tables e below (T2.setTop (mkF m 27 #[.val (.ref o0), .val (.ref o1), .val (.int (0:Int32)), .val (.int (0:Int32)), .unset, .unset] [(.int (0:Int32))])) _
    refine XS.istore X2.here hx rfl (hb hby d10_27) rfl (l' := #[.val (.ref o0), .val (.ref o1), .val (.int (0:Int32)), .val (.int (0:Int32)), .val (.int (0:Int32)), .unset]) rfl ?_
    refine XS.aloadN X2.here hx rfl (hb hby d10_29) rfl rfl ?_
    refine XS.aloadN X2.here hx rfl (hb hby d10_30) rfl rfl ?_
    refine XS.iloadN X2.here hx rfl (hb hby d10_31) rfl ?_
    show Steps p.tables e below (T2.setTop (mkF m 32 #[.val (.ref o0), .val (.ref o1), .val (.int (0:Int32)), .val (.int (0:Int32)), .val (.int (0:Int32)), .unset] [(.int (0:Int32)), (.ref o1), (.ref o0)])) _
    refine X2.iaload hx (j := (0:Int32)) (v := (.int (0:Int32))) (by rw [e2]; exact Ar5.1) (State.isArrayOf_alike hZ.alike Ar5.2.1) Ar5.2.2 hin5 (H5.at hin5 rfl) (g := (mkF m 32 #[.val (.ref o0), .val (.ref o1), .val (.int (0:Int32)), .val (.int (0:Int32)), .val (.int (0:Int32)), .unset] [(.int (0:Int32)), (.ref o1), (.ref o0)])) rfl rfl (hb hby d10_32) _ ?_
    show Steps p.tables e below (T2.setTop (mkF m 33 #[.val (.ref o0), .val (.ref o1), .val (.int (0:Int32)), .val (.int (0:Int32)), .val (.int (0:Int32)), .unset] [(.int (0:Int32)), (.ref o0)])) _
    refine st6.trans ?_
    show Steps p.tables e below (T6.setTop (mkF m 36 #[.val (.ref o0), .val (.ref o1), .val (.int (0:Int32)), .val (.int (0:Int32)), .val (.int (0:Int32)), .unset] [(.int (0:Int32))])) _
    refine XS.istore X6.here hx rfl (hb hby d10_36) rfl (l' := #[.val (.ref o0), .val (.ref o1), .val (.int (0:Int32)), .val (.int (0:Int32)), .val (.int (0:Int32)), .val (.int (0:Int32))]) rfl ?_
    refine XS.iload X6.here hx rfl (hb hby d10_38) rfl ?_
    refine XS.iload X6.here hx rfl (hb hby d10_40) rfl ?_
    refine XS.icmpYes X6.here hx rfl (pc0 := 42) (pc' := 64) rfl (hb hby d10_42) rfl (flt ((by decide) : ¬ ((0:Int32) < (0:Int32)))).2.1 (by decide) (by decide) ?_
    refine XS.iinc X6.here hx rfl (hb hby d10_64) rfl (l' := #[.val (.ref o0), .val (.ref o1), .val (.int (0:Int32)), .val (.int (1:Int32)), .val (.int (0:Int32)), .val (.int (0:Int32))]) rfl ?_
    refine XS.goto X6.here hx rfl (pc0 := 67) (pc' := 4) rfl (hb hby d10_67) (by decide) (by decide) ?_
    refine XS.iloadN X6.here hx rfl (hb hby d10_4) rfl ?_
    refine XS.aloadN X6.here hx rfl (hb hby d10_5) rfl rfl ?_
    show Steps p.tables e below (T6.setTop (mkF m 6 #[.val (.ref o0), .val (.ref o1), .val (.int (0:Int32)), .val (.int (1:Int32)), .val (.int (0:Int32)), .val (.int (0:Int32))] [(.ref o1), (.int (1:Int32))])) _
    refine X6.arraylength hx (by rw [e6q]; exact Ar7.1) (State.isArrayOf_alike hZ.alike Ar7.2.1) (g := (mkF m 6 #[.val (.ref o0), .val (.ref o1), .val (.int (0:Int32)), .val (.int (1:Int32)), .val (.int (0:Int32)), .val (.int (0:Int32))] [(.ref o1), (.int (1:Int32))])) rfl rfl (hb hby d10_6) _ ?_
    rw [len_of S7 N7']
    show Steps p.tables e below (T6.setTop (mkF m 7 #[.val (.ref o0), .val (.ref o1), .val (.int (0:Int32)), .val (.int (1:Int32)), .val (.int (0:Int32)), .val (.int (0:Int32))] [(.int (2:Int32)), (.int (1:Int32))])) _
    refine XS.icmpNo X6.here hx rfl (hb hby d10_7) rfl (tlt ((by decide) : (1:Int32) < (2:Int32))).2.1 ?_
    refine XS.iloadN X6.here hx rfl (hb hby d10_10) rfl ?_
    refine XS.ifNo X6.here hx rfl (hb hby d10_11) rfl ((if0 _ _).trans (tlt ((by decide) : (0:Int32) < (1:Int32))).2.2.2) ?_
    refine XS.bipush X6.here hx rfl (hb hby d10_14) ?_
    refine XS.iloadN X6.here hx rfl (hb hby d10_16) rfl ?_
    show Steps p.tables e below (T6.setTop (mkF m 17 #[.val (.ref o0), .val (.ref o1), .val (.int (0:Int32)), .val (.int (1:Int32)), .val (.int (0:Int32)), .val (.int (0:Int32))] [(.int (0:Int32)), (.int (31:Int32))])) _
    refine XS.imul X6.here hx rfl (hb hby d10_17) rfl ?_
    rw [show ((31:Int32) * (0:Int32)) = (0:Int32) from by decide]
    show Steps p.tables e below (T6.setTop (mkF m 18 #[.val (.ref o0), .val (.ref o1), .val (.int (0:Int32)), .val (.int (1:Int32)), .val (.int (0:Int32)), .val (.int (0:Int32))] [(.int (0:Int32))])) _
    refine XS.istoreN X6.here hx rfl (hb hby d10_18) rfl (l' := #[.val (.ref o0), .val (.ref o1), .val (.int (0:Int32)), .val (.int (1:Int32)), .val (.int (0:Int32)), .val (.int (0:Int32))]) rfl ?_
    refine XS.aloadN X6.here hx rfl (hb hby d10_19) rfl rfl ?_
    show Steps p.tables e below (T6.setTop (mkF m 20 #[.val (.ref o0), .val (.ref o1), .val (.int (0:Int32)), .val (.int (1:Int32)), .val (.int (0:Int32)), .val (.int (0:Int32))] [(.ref o0)])) _
    refine st8 _ ?_
    show Steps p.tables e below (T8.setTop (mkF m 23 #[.val (.ref o0), .val (.ref o1), .val (.int (0:Int32)), .val (.int (1:Int32)), .val (.int (0:Int32)), .val (.int (0:Int32))] [(.ref bn)])) _
    refine XS.aloadN X8.here hx rfl (hb hby d10_23) rfl rfl ?_
    refine XS.iloadN X8.here hx rfl (hb hby d10_24) rfl ?_
    show Steps p.tables e below (T8.setTop (mkF m 25 #[.val (.ref o0), .val (.ref o1), .val (.int (0:Int32)), .val (.int (1:Int32)), .val (.int (0:Int32)), .val (.int (0:Int32))] [(.int (1:Int32)), (.ref o1), (.ref bn)])) _
    refine X8.iaload hx (j := (1:Int32)) (v := (.int (0:Int32))) (by rw [e8]; exact Ar9.1) (State.isArrayOf_alike hZ.alike Ar9.2.1) Ar9.2.2 hin9 (H9.at hin9 rfl) (g := (mkF m 25 #[.val (.ref o0), .val (.ref o1), .val (.int (0:Int32)), .val (.int (1:Int32)), .val (.int (0:Int32)), .val (.int (0:Int32))] [(.int (1:Int32)), (.ref o1), (.ref bn)])) rfl rfl (hb hby d10_25) _ ?_
    show Steps p.tables e below (T8.setTop (mkF m 26 #[.val (.ref o0), .val (.ref o1), .val (.int (0:Int32)), .val (.int (1:Int32)), .val (.int (0:Int32)), .val (.int (0:Int32))] [(.int (0:Int32)), (.ref bn)])) _
    refine X8.iaload hx (j := (0:Int32)) (v := (.int (0:Int32))) (by rw [e8]; exact Ar10.1) (State.isArrayOf_alike hZ.alike Ar10.2.1) Ar10.2.2 hin10 (H10.at hin10 rfl) (g := (mkF m 26 #[.val (.ref o0), .val (.ref o1), .val (.int (0:Int32)), .val (.int (1:Int32)), .val (.int (0:Int32)), .val (.int (0:Int32))] [(.int (0:Int32)), (.ref bn)])) rfl rfl (hb hby d10_26) _ ?_
    show Steps p.tables e below (T8.setTop (mkF m 27 #[.val (.ref o0), .val (.ref o1), .val (.int (0:Int32)), .val (.int (1:Int32)), .val (.int (0:Int32)), .val (.int (0:Int32))] [(.int (0:Int32))])) _
    refine XS.istore X8.here hx rfl (hb hby d10_27) rfl (l' := #[.val (.ref o0), .val (.ref o1), .val (.int (0:Int32)), .val (.int (1:Int32)), .val (.int (0:Int32)), .val (.int (0:Int32))]) rfl ?_
    refine XS.aloadN X8.here hx rfl (hb hby d10_29) rfl rfl ?_
    refine XS.aloadN X8.here hx rfl (hb hby d10_30) rfl rfl ?_
    refine XS.iloadN X8.here hx rfl (hb hby d10_31) rfl ?_
    show Steps p.tables e below (T8.setTop (mkF m 32 #[.val (.ref o0), .val (.ref o1), .val (.int (0:Int32)), .val (.int (1:Int32)), .val (.int (0:Int32)), .val (.int (0:Int32))] [(.int (1:Int32)), (.ref o1), (.ref o0)])) _
    refine X8.iaload hx (j := (1:Int32)) (v := (.int (0:Int32))) (by rw [e8]; exact Ar11.1) (State.isArrayOf_alike hZ.alike Ar11.2.1) Ar11.2.2 hin11 (H11.at hin11 rfl) (g := (mkF m 32 #[.val (.ref o0), .val (.ref o1), .val (.int (0:Int32)), .val (.int (1:Int32)), .val (.int (0:Int32)), .val (.int (0:Int32))] [(.int (1:Int32)), (.ref o1), (.ref o0)])) rfl rfl (hb hby d10_32) _ ?_
    show Steps p.tables e below (T8.setTop (mkF m 33 #[.val (.ref o0), .val (.ref o1), .val (.int (0:Int32)), .val (.int (1:Int32)), .val (.int (0:Int32)), .val (.int (0:Int32))] [(.int (0:Int32)), (.ref o0)])) _
    refine st12.trans ?_
    show Steps p.tables e below (T12.setTop (mkF m 36 #[.val (.ref o0), .val (.ref o1), .val (.int (0:Int32)), .val (.int (1:Int32)), .val (.int (0:Int32)), .val (.int (0:Int32))] [(.int (0:Int32))])) _
    refine XS.istore X12.here hx rfl (hb hby d10_36) rfl (l' := #[.val (.ref o0), .val (.ref o1), .val (.int (0:Int32)), .val (.int (1:Int32)), .val (.int (0:Int32)), .val (.int (0:Int32))]) rfl ?_
    refine XS.iload X12.here hx rfl (hb hby d10_38) rfl ?_
    refine XS.iload X12.here hx rfl (hb hby d10_40) rfl ?_
    refine XS.icmpYes X12.here hx rfl (pc0 := 42) (pc' := 64) rfl (hb hby d10_42) rfl (flt ((by decide) : ¬ ((0:Int32) < (0:Int32)))).2.1 (by decide) (by decide) ?_
    refine XS.iinc X12.here hx rfl (hb hby d10_64) rfl (l' := #[.val (.ref o0), .val (.ref o1), .val (.int (0:Int32)), .val (.int (2:Int32)), .val (.int (0:Int32)), .val (.int (0:Int32))]) rfl ?_
    refine XS.goto X12.here hx rfl (pc0 := 67) (pc' := 4) rfl (hb hby d10_67) (by decide) (by decide) ?_
    refine XS.iloadN X12.here hx rfl (hb hby d10_4) rfl ?_
    refine XS.aloadN X12.here hx rfl (hb hby d10_5) rfl rfl ?_
    show Steps p.tables e below (T12.setTop (mkF m 6 #[.val (.ref o0), .val (.ref o1), .val (.int (0:Int32)), .val (.int (2:Int32)), .val (.int (0:Int32)), .val (.int (0:Int32))] [(.ref o1), (.int (2:Int32))])) _
    refine X12.arraylength hx (by rw [e12q]; exact Ar13.1) (State.isArrayOf_alike hZ.alike Ar13.2.1) (g := (mkF m 6 #[.val (.ref o0), .val (.ref o1), .val (.int (0:Int32)), .val (.int (2:Int32)), .val (.int (0:Int32)), .val (.int (0:Int32))] [(.ref o1), (.int (2:Int32))])) rfl rfl (hb hby d10_6) _ ?_
    rw [len_of S13 N13']
    show Steps p.tables e below (T12.setTop (mkF m 7 #[.val (.ref o0), .val (.ref o1), .val (.int (0:Int32)), .val (.int (2:Int32)), .val (.int (0:Int32)), .val (.int (0:Int32))] [(.int (2:Int32)), (.int (2:Int32))])) _
    refine XS.icmpYes X12.here hx rfl (pc0 := 7) (pc' := 70) rfl (hb hby d10_7) rfl (flt ((by decide) : ¬ ((2:Int32) < (2:Int32)))).2.1 (by decide) (by decide) ?_
    refine XS.iloadN X12.here hx rfl (hb hby d10_70) rfl ?_
    show Steps p.tables e below (T12.setTop (mkF m 71 #[.val (.ref o0), .val (.ref o1), .val (.int (0:Int32)), .val (.int (2:Int32)), .val (.int (0:Int32)), .val (.int (0:Int32))] [(.int (0:Int32))])) _
    exact retI X12 hx Bd.returns (hb hby d10_71) hr
  · show rm10Q Z o0 o1 (2:Int32) h0 n0 _ T12.heap _
    rw [e12q]
    exact ⟨rfl, N12, rfl⟩
theorem pd_rm10_3_0 : parseMethodDescriptor "(I)I" = some ⟨[.int], some .int⟩ := by decide +kernel
theorem ef_rm10_3 (m : MethodId) (o0 : Nat) (o1 : Nat) : entryFrame m #[(.ref o0), (.ref o1)] 6 = mkF m 0 #[.val (.ref o0), .val (.ref o1), .unset, .unset, .unset, .unset] [] := by first | (simp [entryFrame, mkF, argsToLocals, Value.category]; done) | rfl
set_option maxRecDepth 65536 in
set_option maxHeartbeats 40000000 in
theorem rm10_3 (l : Launch) (Z : State) (aw : Array Value) (hw : ∀ d ∈ tables_1, d.before aw Z = true) (ws : List Jvm.Cond) (o0 : Nat) (o1 : Nat) (bn : Nat) (kn k1 : ClassId) (h0 : Heap) (n0 : Nat) (Z0 : n0 ≤ h0.size) (E_o0 : Exa Z h0 o0 "com/example/tavola/tavola/profile/CsvReader") (F_ends : Fld Z h0 o0 "com/example/tavola/tavola/profile/CsvReader" "ends" "[I" (.ref bn)) (V_bn : Arv Z h0 bn kn .int (16:Int32) [] (.int (0:Int32))) (V_o1 : Arv Z h0 o1 k1 .int (3:Int32) [] (.int (0:Int32))) :
    MetFree l (⟨"com/example/tavola/tavola/profile/CsvReader", "keyHash", "([I)I"⟩ : MethodName) (head1 (Jvm.Cond.code (⟨"com/example/tavola/tavola/profile/CsvReader", "keyHash", "([I)I"⟩ : MethodName) prog_81_method_11_code 6 (some .int) :: ws) ({ frames := 1, cells := 0, slots := 0, locals := 13 } : Room)) (fun a U => a = #[(.ref o0), (.ref o1)] ∧ Z.Warmed39 U.vm ∧ U.heap = h0) (fun _ _ _ _ _ => True) (fun _ U o U' => ∃ v L, o = .returned v ∧ rm10Q Z o0 o1 (3:Int32) h0 n0 v U'.heap L ∧ FrameEnd U o U' L ({ frames := 1, cells := 0, slots := 0, locals := 13 } : Room).cells ({ frames := 1, cells := 0, slots := 0, locals := 13 } : Room).slots) := by
  refine MetFree.of_bodySF (plainFor_of_name pn_10) hisR ?_
  intro p e s m args below meth c s₁ Bd hml0 hP hK
  obtain ⟨rfl, hZ, hh⟩ := hP
  have hx := Bd.exec
  have hby := Bd.bytes
  have hml : c.maxLocals = 6 := hml0
  have hown : s.vm.findClass "com/example/tavola/tavola/profile/CsvReader" = some m.cls := findClass_of_methodNamed Bd.named
  have hnm := (name_of_methodNamed Bd.named Bd.method).1
  have X0 : Stand p l e ({ frames := 1, cells := 0, slots := 0, locals := 13 } : Room) s m #[(.ref o0), (.ref o1)] below meth c s₁ [] 0 0 := Stand.of_body Bd
  have e0 : s₁.heap = h0 := by rw [← hh, Bd.state]; rfl
  have N0 := Fr.nil n0
  have pre0 : ∀ t, Steps p.tables e below (s₁.setTop (mkF m 0 #[.val (.ref o0), .val (.ref o1), .unset, .unset, .unset, .unset] [])) t → Steps p.tables e below (s₁.setTop (entryFrame m #[(.ref o0), (.ref o1)] 6)) t := fun t k => castTop (ef_rm10_3 m o0 o1) k
  obtain ⟨cl1, Ar1, -, S1, N1', -, -⟩ := id V_o1
  obtain ⟨T2, X2, e2, st2⟩ := getF X0 hx hZ hown (host := "") (Or.inl (hw _ (oG (i := 19) rfl))) Via.refl e0 F_ends (g := (mkF m 20 #[.val (.ref o0), .val (.ref o1), .val (.int (0:Int32)), .val (.int (0:Int32)), .unset, .unset] [(.ref o0)])) rfl rfl (hb hby d10_20)
  obtain ⟨cl3, Ar3, q3, S3, N3', H3, G3⟩ := id V_o1
  have hin3 : ¬ ((0:Int32) < 0 ∨ cl3.slots.size ≤ ((0:Int32)).toNatClampNeg) := inb_of S3 ⟨by decide, by decide⟩
  obtain ⟨cl4, Ar4, q4, S4, N4', H4, G4⟩ := id V_bn
  have hin4 : ¬ ((0:Int32) < 0 ∨ cl4.slots.size ≤ ((0:Int32)).toNatClampNeg) := inb_of S4 ⟨by decide, by decide⟩
  obtain ⟨cl5, Ar5, q5, S5, N5', H5, G5⟩ := id V_o1
  have hin5 : ¬ ((0:Int32) < 0 ∨ cl5.slots.size ≤ ((0:Int32)).toNatClampNeg) := inb_of S5 ⟨by decide, by decide⟩
  obtain ⟨cq6, q6, q6'⟩ := (E_o0).cell
  obtain ⟨_, _, ⟨T6, L6, k6, n6⟩, -, X6, ⟨Lc6, hQ6, l6, y6, z6⟩, st6⟩ := X2.privateBack hx (y := (⟨"com/example/tavola/tavola/profile/CsvReader", "start", "(I)I"⟩ : MethodName)) hown (mvT hZ (hw _ (oG (i := 70) rfl))) (mvT hZ (hw _ (oG (i := 71) rfl))) (own_selP hZ (hw _ (oG (i := 3) rfl)) (hw _ (oG (i := 71) rfl)) (hw _ (oG (i := 72) rfl)) (by decide)) (Cond.privateMethod_at (mvP hZ (hw _ (oG (i := 72) rfl)) (args := #[]))) (mvT hZ (hw _ (oG (i := 73) rfl))) (by decide) (backOf (W := 0) (rm8 l Z aw hw [] o0 h0 n0 Z0) hZ (hw _ (oG (i := 73) rfl)) (hw _ (oG (i := 4) rfl)) (by decide) (by decide)) (g := (mkF m 33 #[.val (.ref o0), .val (.ref o1), .val (.int (0:Int32)), .val (.int (0:Int32)), .val (.int (0:Int32)), .unset] [(.int (0:Int32)), (.ref o0)])) rfl (by rw [hml]; rfl) (Steps.refl _) (a := o0) (by rw [e2]; exact q6) q6' (argsL := [(.int (0:Int32))]) (rest := []) (lenOf pd_rm10_3_0 rfl) rfl (by show 2 * 0 + _ ≤ _; exact Nat.le_of_eq rfl) (hb hby d10_33) (fun _ _ => ⟨rfl, e2, (by decide : 0 + 0 ≤ _), (by decide : 0 + 0 ≤ _)⟩)
  dsimp only [Pt.U, Pt.locs, Pt.cells, Pt.slots] at X6 l6 y6 z6 st6 hQ6
  subst l6 y6 z6
  obtain ⟨rfl, N6q, e6q⟩ := hQ6
  have N6 := Fr.app N0 N6q
  obtain ⟨cl7, Ar7, -, S7, N7', -, -⟩ := id V_o1
  obtain ⟨T8, X8, e8, st8⟩ := getF X6 hx hZ hown (host := "") (Or.inl (hw _ (oG (i := 19) rfl))) Via.refl e6q F_ends (g := (mkF m 20 #[.val (.ref o0), .val (.ref o1), .val (.int (0:Int32)), .val (.int (1:Int32)), .val (.int (0:Int32)), .val (.int (0:Int32))] [(.ref o0)])) rfl rfl (hb hby d10_20)
  obtain ⟨cl9, Ar9, q9, S9, N9', H9, G9⟩ := id V_o1
  have hin9 : ¬ ((1:Int32) < 0 ∨ cl9.slots.size ≤ ((1:Int32)).toNatClampNeg) := inb_of S9 ⟨by decide, by decide⟩
  obtain ⟨cl10, Ar10, q10, S10, N10', H10, G10⟩ := id V_bn
  have hin10 : ¬ ((0:Int32) < 0 ∨ cl10.slots.size ≤ ((0:Int32)).toNatClampNeg) := inb_of S10 ⟨by decide, by decide⟩
  obtain ⟨cl11, Ar11, q11, S11, N11', H11, G11⟩ := id V_o1
  have hin11 : ¬ ((1:Int32) < 0 ∨ cl11.slots.size ≤ ((1:Int32)).toNatClampNeg) := inb_of S11 ⟨by decide, by decide⟩
  obtain ⟨cq12, q12, q12'⟩ := (E_o0).cell
  obtain ⟨_, _, ⟨T12, L12, k12, n12⟩, -, X12, ⟨Lc12, hQ12, l12, y12, z12⟩, st12⟩ := X8.privateBack hx (y := (⟨"com/example/tavola/tavola/profile/CsvReader", "start", "(I)I"⟩ : MethodName)) hown (mvT hZ (hw _ (oG (i := 70) rfl))) (mvT hZ (hw _ (oG (i := 71) rfl))) (own_selP hZ (hw _ (oG (i := 3) rfl)) (hw _ (oG (i := 71) rfl)) (hw _ (oG (i := 72) rfl)) (by decide)) (Cond.privateMethod_at (mvP hZ (hw _ (oG (i := 72) rfl)) (args := #[]))) (mvT hZ (hw _ (oG (i := 73) rfl))) (by decide) (backOf (W := 0) (rm8 l Z aw hw [] o0 h0 n0 Z0) hZ (hw _ (oG (i := 73) rfl)) (hw _ (oG (i := 4) rfl)) (by decide) (by decide)) (g := (mkF m 33 #[.val (.ref o0), .val (.ref o1), .val (.int (0:Int32)), .val (.int (1:Int32)), .val (.int (0:Int32)), .val (.int (0:Int32))] [(.int (0:Int32)), (.ref o0)])) rfl (by rw [hml]; rfl) (Steps.refl _) (a := o0) (by rw [e8]; exact q12) q12' (argsL := [(.int (0:Int32))]) (rest := []) (lenOf pd_rm10_3_0 rfl) rfl (by show 2 * 0 + _ ≤ _; exact Nat.le_of_eq rfl) (hb hby d10_33) (fun _ _ => ⟨rfl, e8, (by decide : 0 + 0 ≤ _), (by decide : 0 + 0 ≤ _)⟩)
  dsimp only [Pt.U, Pt.locs, Pt.cells, Pt.slots] at X12 l12 y12 z12 st12 hQ12
  subst l12 y12 z12
  obtain ⟨rfl, N12q, e12q⟩ := hQ12
  have N12 := Fr.app N6 N12q
  obtain ⟨cl13, Ar13, -, S13, N13', -, -⟩ := id V_o1
  obtain ⟨T14, X14, e14, st14⟩ := getF X12 hx hZ hown (host := "") (Or.inl (hw _ (oG (i := 19) rfl))) Via.refl e12q F_ends (g := (mkF m 20 #[.val (.ref o0), .val (.ref o1), .val (.int (0:Int32)), .val (.int (2:Int32)), .val (.int (0:Int32)), .val (.int (0:Int32))] [(.ref o0)])) rfl rfl (hb hby d10_20)
  obtain ⟨cl15, Ar15, q15, S15, N15', H15, G15⟩ := id V_o1
  have hin15 : ¬ ((2:Int32) < 0 ∨ cl15.slots.size ≤ ((2:Int32)).toNatClampNeg) := inb_of S15 ⟨by decide, by decide⟩
  obtain ⟨cl16, Ar16, q16, S16, N16', H16, G16⟩ := id V_bn
  have hin16 : ¬ ((0:Int32) < 0 ∨ cl16.slots.size ≤ ((0:Int32)).toNatClampNeg) := inb_of S16 ⟨by decide, by decide⟩
  obtain ⟨cl17, Ar17, q17, S17, N17', H17, G17⟩ := id V_o1
  have hin17 : ¬ ((2:Int32) < 0 ∨ cl17.slots.size ≤ ((2:Int32)).toNatClampNeg) := inb_of S17 ⟨by decide, by decide⟩
  obtain ⟨cq18, q18, q18'⟩ := (E_o0).cell
  obtain ⟨_, _, ⟨T18, L18, k18, n18⟩, -, X18, ⟨Lc18, hQ18, l18, y18, z18⟩, st18⟩ := X14.privateBack hx (y := (⟨"com/example/tavola/tavola/profile/CsvReader", "start", "(I)I"⟩ : MethodName)) hown (mvT hZ (hw _ (oG (i := 70) rfl))) (mvT hZ (hw _ (oG (i := 71) rfl))) (own_selP hZ (hw _ (oG (i := 3) rfl)) (hw _ (oG (i := 71) rfl)) (hw _ (oG (i := 72) rfl)) (by decide)) (Cond.privateMethod_at (mvP hZ (hw _ (oG (i := 72) rfl)) (args := #[]))) (mvT hZ (hw _ (oG (i := 73) rfl))) (by decide) (backOf (W := 0) (rm8 l Z aw hw [] o0 h0 n0 Z0) hZ (hw _ (oG (i := 73) rfl)) (hw _ (oG (i := 4) rfl)) (by decide) (by decide)) (g := (mkF m 33 #[.val (.ref o0), .val (.ref o1), .val (.int (0:Int32)), .val (.int (2:Int32)), .val (.int (0:Int32)), .val (.int (0:Int32))] [(.int (0:Int32)), (.ref o0)])) rfl (by rw [hml]; rfl) (Steps.refl _) (a := o0) (by rw [e14]; exact q18) q18' (argsL := [(.int (0:Int32))]) (rest := []) (lenOf pd_rm10_3_0 rfl) rfl (by show 2 * 0 + _ ≤ _; exact Nat.le_of_eq rfl) (hb hby d10_33) (fun _ _ => ⟨rfl, e14, (by decide : 0 + 0 ≤ _), (by decide : 0 + 0 ≤ _)⟩)
  dsimp only [Pt.U, Pt.locs, Pt.cells, Pt.slots] at X18 l18 y18 z18 st18 hQ18
  subst l18 y18 z18
  obtain ⟨rfl, N18q, e18q⟩ := hQ18
  have N18 := Fr.app N12 N18q
  obtain ⟨cl19, Ar19, -, S19, N19', -, -⟩ := id V_o1
  obtain ⟨fs, hr, hrun, hended, hW, hsame⟩ := X18.leave (v := some (.int (0:Int32))) (fun h => by rw [Bd.returns] at h; cases h)
  refine ⟨_, _, pre0 _ ?_, hrun, hended, _, _, rfl, ?_, ⟨_, rfl⟩, hW, hsame.mono (by decide) (by decide)⟩
  · show Steps p.tables e below (s₁.setTop (mkF m 0 #[.val (.ref o0), .val (.ref o1), .unset, .unset, .unset, .unset] [])) _
    refine XS.iconst X0.here hx rfl (hb hby d10_0) ?_
    refine XS.istoreN X0.here hx rfl (hb hby d10_1) rfl (l' := #[.val (.ref o0), .val (.ref o1), .val (.int (0:Int32)), .unset, .unset, .unset]) rfl ?_
    refine XS.iconst X0.here hx rfl (hb hby d10_2) ?_
    refine XS.istoreN X0.here hx rfl (hb hby d10_3) rfl (l' := #[.val (.ref o0), .val (.ref o1), .val (.int (0:Int32)), .val (.int (0:Int32)), .unset, .unset]) rfl ?_
    refine XS.iloadN X0.here hx rfl (hb hby d10_4) rfl ?_
    refine XS.aloadN X0.here hx rfl (hb hby d10_5) rfl rfl ?_
    show Steps p.tables e below (s₁.setTop (mkF m 6 #[.val (.ref o0), .val (.ref o1), .val (.int (0:Int32)), .val (.int (0:Int32)), .unset, .unset] [(.ref o1), (.int (0:Int32))])) _
    refine X0.arraylength hx (by rw [e0]; exact Ar1.1) (State.isArrayOf_alike hZ.alike Ar1.2.1) (g := (mkF m 6 #[.val (.ref o0), .val (.ref o1), .val (.int (0:Int32)), .val (.int (0:Int32)), .unset, .unset] [(.ref o1), (.int (0:Int32))])) rfl rfl (hb hby d10_6) _ ?_
    rw [len_of S1 N1']
    show Steps p.tables e below (s₁.setTop (mkF m 7 #[.val (.ref o0), .val (.ref o1), .val (.int (0:Int32)), .val (.int (0:Int32)), .unset, .unset] [(.int (3:Int32)), (.int (0:Int32))])) _
    refine XS.icmpNo X0.here hx rfl (hb hby d10_7) rfl (tlt ((by decide) : (0:Int32) < (3:Int32))).2.1 ?_
    refine XS.iloadN X0.here hx rfl (hb hby d10_10) rfl ?_
    refine XS.ifYes X0.here hx rfl (pc0 := 11) (pc' := 19) rfl (hb hby d10_11) rfl ((if0 _ _).trans (flt ((by decide) : ¬ ((0:Int32) < (0:Int32)))).2.2.2) (by decide) (by decide) ?_
    refine XS.aloadN X0.here hx rfl (hb hby d10_19) rfl rfl ?_
    show Steps p.tables e below (s₁.setTop (mkF m 20 #[.val (.ref o0), .val (.ref o1), .val (.int (0:Int32)), .val (.int (0:Int32)), .unset, .unset] [(.ref o0)])) _
    refine st2 _ ?_
    show Steps p.tables e below (T2.setTop (mkF m 23 #[.val (.ref o0), .val (.ref o1), .val (.int (0:Int32)), .val (.int (0:Int32)), .unset, .unset] [(.ref bn)])) _
    refine XS.aloadN X2.here hx rfl (hb hby d10_23) rfl rfl ?_
    refine XS.iloadN X2.here hx rfl (hb hby d10_24) rfl ?_
    show Steps p.tables e below (T2.setTop (mkF m 25 #[.val (.ref o0), .val (.ref o1), .val (.int (0:Int32)), .val (.int (0:Int32)), .unset, .unset] [(.int (0:Int32)), (.ref o1), (.ref bn)])) _
    refine X2.iaload hx (j := (0:Int32)) (v := (.int (0:Int32))) (by rw [e2]; exact Ar3.1) (State.isArrayOf_alike hZ.alike Ar3.2.1) Ar3.2.2 hin3 (H3.at hin3 rfl) (g := (mkF m 25 #[.val (.ref o0), .val (.ref o1), .val (.int (0:Int32)), .val (.int (0:Int32)), .unset, .unset] [(.int (0:Int32)), (.ref o1), (.ref bn)])) rfl rfl (hb hby d10_25) _ ?_
    show Steps p.tables e below (T2.setTop (mkF m 26 #[.val (.ref o0), .val (.ref o1), .val (.int (0:Int32)), .val (.int (0:Int32)), .unset, .unset] [(.int (0:Int32)), (.ref bn)])) _
    refine X2.iaload hx (j := (0:Int32)) (v := (.int (0:Int32))) (by rw [e2]; exact Ar4.1) (State.isArrayOf_alike hZ.alike Ar4.2.1) Ar4.2.2 hin4 (H4.at hin4 rfl) (g := (mkF m 26 #[.val (.ref o0), .val (.ref o1), .val (.int (0:Int32)), .val (.int (0:Int32)), .unset, .unset] [(.int (0:Int32)), (.ref bn)])) rfl rfl (hb hby d10_26) _ ?_
    show Steps p.tables e below (T2.setTop (mkF m 27 #[.val (.ref o0), .val (.ref o1), .val (.int (0:Int32)), .val (.int (0:Int32)), .unset, .unset] [(.int (0:Int32))])) _
    refine XS.istore X2.here hx rfl (hb hby d10_27) rfl (l' := #[.val (.ref o0), .val (.ref o1), .val (.int (0:Int32)), .val (.int (0:Int32)), .val (.int (0:Int32)), .unset]) rfl ?_
    refine XS.aloadN X2.here hx rfl (hb hby d10_29) rfl rfl ?_
    refine XS.aloadN X2.here hx rfl (hb hby d10_30) rfl rfl ?_
    refine XS.iloadN X2.here hx rfl (hb hby d10_31) rfl ?_
    show Steps p.tables e below (T2.setTop (mkF m 32 #[.val (.ref o0), .val (.ref o1), .val (.int (0:Int32)), .val (.int (0:Int32)), .val (.int (0:Int32)), .unset] [(.int (0:Int32)), (.ref o1), (.ref o0)])) _
    refine X2.iaload hx (j := (0:Int32)) (v := (.int (0:Int32))) (by rw [e2]; exact Ar5.1) (State.isArrayOf_alike hZ.alike Ar5.2.1) Ar5.2.2 hin5 (H5.at hin5 rfl) (g := (mkF m 32 #[.val (.ref o0), .val (.ref o1), .val (.int (0:Int32)), .val (.int (0:Int32)), .val (.int (0:Int32)), .unset] [(.int (0:Int32)), (.ref o1), (.ref o0)])) rfl rfl (hb hby d10_32) _ ?_
    show Steps p.tables e below (T2.setTop (mkF m 33 #[.val (.ref o0), .val (.ref o1), .val (.int (0:Int32)), .val (.int (0:Int32)), .val (.int (0:Int32)), .unset] [(.int (0:Int32)), (.ref o0)])) _
    refine st6.trans ?_
    show Steps p.tables e below (T6.setTop (mkF m 36 #[.val (.ref o0), .val (.ref o1), .val (.int (0:Int32)), .val (.int (0:Int32)), .val (.int (0:Int32)), .unset] [(.int (0:Int32))])) _
    refine XS.istore X6.here hx rfl (hb hby d10_36) rfl (l' := #[.val (.ref o0), .val (.ref o1), .val (.int (0:Int32)), .val (.int (0:Int32)), .val (.int (0:Int32)), .val (.int (0:Int32))]) rfl ?_
    refine XS.iload X6.here hx rfl (hb hby d10_38) rfl ?_
    refine XS.iload X6.here hx rfl (hb hby d10_40) rfl ?_
    refine XS.icmpYes X6.here hx rfl (pc0 := 42) (pc' := 64) rfl (hb hby d10_42) rfl (flt ((by decide) : ¬ ((0:Int32) < (0:Int32)))).2.1 (by decide) (by decide) ?_
    refine XS.iinc X6.here hx rfl (hb hby d10_64) rfl (l' := #[.val (.ref o0), .val (.ref o1), .val (.int (0:Int32)), .val (.int (1:Int32)), .val (.int (0:Int32)), .val (.int (0:Int32))]) rfl ?_
    refine XS.goto X6.here hx rfl (pc0 := 67) (pc' := 4) rfl (hb hby d10_67) (by decide) (by decide) ?_
    refine XS.iloadN X6.here hx rfl (hb hby d10_4) rfl ?_
    refine XS.aloadN X6.here hx rfl (hb hby d10_5) rfl rfl ?_
    show Steps p.tables e below (T6.setTop (mkF m 6 #[.val (.ref o0), .val (.ref o1), .val (.int (0:Int32)), .val (.int (1:Int32)), .val (.int (0:Int32)), .val (.int (0:Int32))] [(.ref o1), (.int (1:Int32))])) _
    refine X6.arraylength hx (by rw [e6q]; exact Ar7.1) (State.isArrayOf_alike hZ.alike Ar7.2.1) (g := (mkF m 6 #[.val (.ref o0), .val (.ref o1), .val (.int (0:Int32)), .val (.int (1:Int32)), .val (.int (0:Int32)), .val (.int (0:Int32))] [(.ref o1), (.int (1:Int32))])) rfl rfl (hb hby d10_6) _ ?_
    rw [len_of S7 N7']
    show Steps p.tables e below (T6.setTop (mkF m 7 #[.val (.ref o0), .val (.ref o1), .val (.int (0:Int32)), .val (.int (1:Int32)), .val (.int (0:Int32)), .val (.int (0:Int32))] [(.int (3:Int32)), (.int (1:Int32))])) _
    refine XS.icmpNo X6.here hx rfl (hb hby d10_7) rfl (tlt ((by decide) : (1:Int32) < (3:Int32))).2.1 ?_
    refine XS.iloadN X6.here hx rfl (hb hby d10_10) rfl ?_
    refine XS.ifNo X6.here hx rfl (hb hby d10_11) rfl ((if0 _ _).trans (tlt ((by decide) : (0:Int32) < (1:Int32))).2.2.2) ?_
    refine XS.bipush X6.here hx rfl (hb hby d10_14) ?_
    refine XS.iloadN X6.here hx rfl (hb hby d10_16) rfl ?_
    show Steps p.tables e below (T6.setTop (mkF m 17 #[.val (.ref o0), .val (.ref o1), .val (.int (0:Int32)), .val (.int (1:Int32)), .val (.int (0:Int32)), .val (.int (0:Int32))] [(.int (0:Int32)), (.int (31:Int32))])) _
    refine XS.imul X6.here hx rfl (hb hby d10_17) rfl ?_
    rw [show ((31:Int32) * (0:Int32)) = (0:Int32) from by decide]
    show Steps p.tables e below (T6.setTop (mkF m 18 #[.val (.ref o0), .val (.ref o1), .val (.int (0:Int32)), .val (.int (1:Int32)), .val (.int (0:Int32)), .val (.int (0:Int32))] [(.int (0:Int32))])) _
    refine XS.istoreN X6.here hx rfl (hb hby d10_18) rfl (l' := #[.val (.ref o0), .val (.ref o1), .val (.int (0:Int32)), .val (.int (1:Int32)), .val (.int (0:Int32)), .val (.int (0:Int32))]) rfl ?_
    refine XS.aloadN X6.here hx rfl (hb hby d10_19) rfl rfl ?_
    show Steps p.tables e below (T6.setTop (mkF m 20 #[.val (.ref o0), .val (.ref o1), .val (.int (0:Int32)), .val (.int (1:Int32)), .val (.int (0:Int32)), .val (.int (0:Int32))] [(.ref o0)])) _
    refine st8 _ ?_
    show Steps p.tables e below (T8.setTop (mkF m 23 #[.val (.ref o0), .val (.ref o1), .val (.int (0:Int32)), .val (.int (1:Int32)), .val (.int (0:Int32)), .val (.int (0:Int32))] [(.ref bn)])) _
    refine XS.aloadN X8.here hx rfl (hb hby d10_23) rfl rfl ?_
    refine XS.iloadN X8.here hx rfl (hb hby d10_24) rfl ?_
    show Steps p.tables e below (T8.setTop (mkF m 25 #[.val (.ref o0), .val (.ref o1), .val (.int (0:Int32)), .val (.int (1:Int32)), .val (.int (0:Int32)), .val (.int (0:Int32))] [(.int (1:Int32)), (.ref o1), (.ref bn)])) _
    refine X8.iaload hx (j := (1:Int32)) (v := (.int (0:Int32))) (by rw [e8]; exact Ar9.1) (State.isArrayOf_alike hZ.alike Ar9.2.1) Ar9.2.2 hin9 (H9.at hin9 rfl) (g := (mkF m 25 #[.val (.ref o0), .val (.ref o1), .val (.int (0:Int32)), .val (.int (1:Int32)), .val (.int (0:Int32)), .val (.int (0:Int32))] [(.int (1:Int32)), (.ref o1), (.ref bn)])) rfl rfl (hb hby d10_25) _ ?_
    show Steps p.tables e below (T8.setTop (mkF m 26 #[.val (.ref o0), .val (.ref o1), .val (.int (0:Int32)), .val (.int (1:Int32)), .val (.int (0:Int32)), .val (.int (0:Int32))] [(.int (0:Int32)), (.ref bn)])) _
    refine X8.iaload hx (j := (0:Int32)) (v := (.int (0:Int32))) (by rw [e8]; exact Ar10.1) (State.isArrayOf_alike hZ.alike Ar10.2.1) Ar10.2.2 hin10 (H10.at hin10 rfl) (g := (mkF m 26 #[.val (.ref o0), .val (.ref o1), .val (.int (0:Int32)), .val (.int (1:Int32)), .val (.int (0:Int32)), .val (.int (0:Int32))] [(.int (0:Int32)), (.ref bn)])) rfl rfl (hb hby d10_26) _ ?_
    show Steps p.tables e below (T8.setTop (mkF m 27 #[.val (.ref o0), .val (.ref o1), .val (.int (0:Int32)), .val (.int (1:Int32)), .val (.int (0:Int32)), .val (.int (0:Int32))] [(.int (0:Int32))])) _
    refine XS.istore X8.here hx rfl (hb hby d10_27) rfl (l' := #[.val (.ref o0), .val (.ref o1), .val (.int (0:Int32)), .val (.int (1:Int32)), .val (.int (0:Int32)), .val (.int (0:Int32))]) rfl ?_
    refine XS.aloadN X8.here hx rfl (hb hby d10_29) rfl rfl ?_
    refine XS.aloadN X8.here hx rfl (hb hby d10_30) rfl rfl ?_
    refine XS.iloadN X8.here hx rfl (hb hby d10_31) rfl ?_
    show Steps p.tables e below (T8.setTop (mkF m 32 #[.val (.ref o0), .val (.ref o1), .val (.int (0:Int32)), .val (.int (1:Int32)), .val (.int (0:Int32)), .val (.int (0:Int32))] [(.int (1:Int32)), (.ref o1), (.ref o0)])) _
    refine X8.iaload hx (j := (1:Int32)) (v := (.int (0:Int32))) (by rw [e8]; exact Ar11.1) (State.isArrayOf_alike hZ.alike Ar11.2.1) Ar11.2.2 hin11 (H11.at hin11 rfl) (g := (mkF m 32 #[.val (.ref o0), .val (.ref o1), .val (.int (0:Int32)), .val (.int (1:Int32)), .val (.int (0:Int32)), .val (.int (0:Int32))] [(.int (1:Int32)), (.ref o1), (.ref o0)])) rfl rfl (hb hby d10_32) _ ?_
    show Steps p.tables e below (T8.setTop (mkF m 33 #[.val (.ref o0), .val (.ref o1), .val (.int (0:Int32)), .val (.int (1:Int32)), .val (.int (0:Int32)), .val (.int (0:Int32))] [(.int (0:Int32)), (.ref o0)])) _
    refine st12.trans ?_
    show Steps p.tables e below (T12.setTop (mkF m 36 #[.val (.ref o0), .val (.ref o1), .val (.int (0:Int32)), .val (.int (1:Int32)), .val (.int (0:Int32)), .val (.int (0:Int32))] [(.int (0:Int32))])) _
    refine XS.istore X12.here hx rfl (hb hby d10_36) rfl (l' := #[.val (.ref o0), .val (.ref o1), .val (.int (0:Int32)), .val (.int (1:Int32)), .val (.int (0:Int32)), .val (.int (0:Int32))]) rfl ?_
    refine XS.iload X12.here hx rfl (hb hby d10_38) rfl ?_
    refine XS.iload X12.here hx rfl (hb hby d10_40) rfl ?_
    refine XS.icmpYes X12.here hx rfl (pc0 := 42) (pc' := 64) rfl (hb hby d10_42) rfl (flt ((by decide) : ¬ ((0:Int32) < (0:Int32)))).2.1 (by decide) (by decide) ?_
    refine XS.iinc X12.here hx rfl (hb hby d10_64) rfl (l' := #[.val (.ref o0), .val (.ref o1), .val (.int (0:Int32)), .val (.int (2:Int32)), .val (.int (0:Int32)), .val (.int (0:Int32))]) rfl ?_
    refine XS.goto X12.here hx rfl (pc0 := 67) (pc' := 4) rfl (hb hby d10_67) (by decide) (by decide) ?_
    refine XS.iloadN X12.here hx rfl (hb hby d10_4) rfl ?_
    refine XS.aloadN X12.here hx rfl (hb hby d10_5) rfl rfl ?_
    show Steps p.tables e below (T12.setTop (mkF m 6 #[.val (.ref o0), .val (.ref o1), .val (.int (0:Int32)), .val (.int (2:Int32)), .val (.int (0:Int32)), .val (.int (0:Int32))] [(.ref o1), (.int (2:Int32))])) _
    refine X12.arraylength hx (by rw [e12q]; exact Ar13.1) (State.isArrayOf_alike hZ.alike Ar13.2.1) (g := (mkF m 6 #[.val (.ref o0), .val (.ref o1), .val (.int (0:Int32)), .val (.int (2:Int32)), .val (.int (0:Int32)), .val (.int (0:Int32))] [(.ref o1), (.int (2:Int32))])) rfl rfl (hb hby d10_6) _ ?_
    rw [len_of S13 N13']
    show Steps p.tables e below (T12.setTop (mkF m 7 #[.val (.ref o0), .val (.ref o1), .val (.int (0:Int32)), .val (.int (2:Int32)), .val (.int (0:Int32)), .val (.int (0:Int32))] [(.int (3:Int32)), (.int (2:Int32))])) _
    refine XS.icmpNo X12.here hx rfl (hb hby d10_7) rfl (tlt ((by decide) : (2:Int32) < (3:Int32))).2.1 ?_
    refine XS.iloadN X12.here hx rfl (hb hby d10_10) rfl ?_
    refine XS.ifNo X12.here hx rfl (hb hby d10_11) rfl ((if0 _ _).trans (tlt ((by decide) : (0:Int32) < (2:Int32))).2.2.2) ?_
    refine XS.bipush X12.here hx rfl (hb hby d10_14) ?_
    refine XS.iloadN X12.here hx rfl (hb hby d10_16) rfl ?_
    show Steps p.tables e below (T12.setTop (mkF m 17 #[.val (.ref o0), .val (.ref o1), .val (.int (0:Int32)), .val (.int (2:Int32)), .val (.int (0:Int32)), .val (.int (0:Int32))] [(.int (0:Int32)), (.int (31:Int32))])) _
    refine XS.imul X12.here hx rfl (hb hby d10_17) rfl ?_
    rw [show ((31:Int32) * (0:Int32)) = (0:Int32) from by decide]
    show Steps p.tables e below (T12.setTop (mkF m 18 #[.val (.ref o0), .val (.ref o1), .val (.int (0:Int32)), .val (.int (2:Int32)), .val (.int (0:Int32)), .val (.int (0:Int32))] [(.int (0:Int32))])) _
    refine XS.istoreN X12.here hx rfl (hb hby d10_18) rfl (l' := #[.val (.ref o0), .val (.ref o1), .val (.int (0:Int32)), .val (.int (2:Int32)), .val (.int (0:Int32)), .val (.int (0:Int32))]) rfl ?_
    refine XS.aloadN X12.here hx rfl (hb hby d10_19) rfl rfl ?_
    show Steps p.tables e below (T12.setTop (mkF m 20 #[.val (.ref o0), .val (.ref o1), .val (.int (0:Int32)), .val (.int (2:Int32)), .val (.int (0:Int32)), .val (.int (0:Int32))] [(.ref o0)])) _
    refine st14 _ ?_
    show Steps p.tables e below (T14.setTop (mkF m 23 #[.val (.ref o0), .val (.ref o1), .val (.int (0:Int32)), .val (.int (2:Int32)), .val (.int (0:Int32)), .val (.int (0:Int32))] [(.ref bn)])) _
    refine XS.aloadN X14.here hx rfl (hb hby d10_23) rfl rfl ?_
    refine XS.iloadN X14.here hx rfl (hb hby d10_24) rfl ?_
    show Steps p.tables e below (T14.setTop (mkF m 25 #[.val (.ref o0), .val (.ref o1), .val (.int (0:Int32)), .val (.int (2:Int32)), .val (.int (0:Int32)), .val (.int (0:Int32))] [(.int (2:Int32)), (.ref o1), (.ref bn)])) _
    refine X14.iaload hx (j := (2:Int32)) (v := (.int (0:Int32))) (by rw [e14]; exact Ar15.1) (State.isArrayOf_alike hZ.alike Ar15.2.1) Ar15.2.2 hin15 (H15.at hin15 rfl) (g := (mkF m 25 #[.val (.ref o0), .val (.ref o1), .val (.int (0:Int32)), .val (.int (2:Int32)), .val (.int (0:Int32)), .val (.int (0:Int32))] [(.int (2:Int32)), (.ref o1), (.ref bn)])) rfl rfl (hb hby d10_25) _ ?_
    show Steps p.tables e below (T14.setTop (mkF m 26 #[.val (.ref o0), .val (.ref o1), .val (.int (0:Int32)), .val (.int (2:Int32)), .val (.int (0:Int32)), .val (.int (0:Int32))] [(.int (0:Int32)), (.ref bn)])) _
    refine X14.iaload hx (j := (0:Int32)) (v := (.int (0:Int32))) (by rw [e14]; exact Ar16.1) (State.isArrayOf_alike hZ.alike Ar16.2.1) Ar16.2.2 hin16 (H16.at hin16 rfl) (g := (mkF m 26 #[.val (.ref o0), .val (.ref o1), .val (.int (0:Int32)), .val (.int (2:Int32)), .val (.int (0:Int32)), .val (.int (0:Int32))] [(.int (0:Int32)), (.ref bn)])) rfl rfl (hb hby d10_26) _ ?_
    show Steps p.tables e below (T14.setTop (mkF m 27 #[.val (.ref o0), .val (.ref o1), .val (.int (0:Int32)), .val (.int (2:Int32)), .val (.int (0:Int32)), .val (.int (0:Int32))] [(.int (0:Int32))])) _
    refine XS.istore X14.here hx rfl (hb hby d10_27) rfl (l' := #[.val (.ref o0), .val (.ref o1), .val (.int (0:Int32)), .val (.int (2:Int32)), .val (.int (0:Int32)), .val (.int (0:Int32))]) rfl ?_
    refine XS.aloadN X14.here hx rfl (hb hby d10_29) rfl rfl ?_
    refine XS.aloadN X14.here hx rfl (hb hby d10_30) rfl rfl ?_
    refine XS.iloadN X14.here hx rfl (hb hby d10_31) rfl ?_
    show Steps p.tables e below (T14.setTop (mkF m 32 #[.val (.ref o0), .val (.ref o1), .val (.int (0:Int32)), .val (.int (2:Int32)), .val (.int (0:Int32)), .val (.int (0:Int32))] [(.int (2:Int32)), (.ref o1), (.ref o0)])) _
    refine X14.iaload hx (j := (2:Int32)) (v := (.int (0:Int32))) (by rw [e14]; exact Ar17.1) (State.isArrayOf_alike hZ.alike Ar17.2.1) Ar17.2.2 hin17 (H17.at hin17 rfl) (g := (mkF m 32 #[.val (.ref o0), .val (.ref o1), .val (.int (0:Int32)), .val (.int (2:Int32)), .val (.int (0:Int32)), .val (.int (0:Int32))] [(.int (2:Int32)), (.ref o1), (.ref o0)])) rfl rfl (hb hby d10_32) _ ?_
    show Steps p.tables e below (T14.setTop (mkF m 33 #[.val (.ref o0), .val (.ref o1), .val (.int (0:Int32)), .val (.int (2:Int32)), .val (.int (0:Int32)), .val (.int (0:Int32))] [(.int (0:Int32)), (.ref o0)])) _
    refine st18.trans ?_
    show Steps p.tables e below (T18.setTop (mkF m 36 #[.val (.ref o0), .val (.ref o1), .val (.int (0:Int32)), .val (.int (2:Int32)), .val (.int (0:Int32)), .val (.int (0:Int32))] [(.int (0:Int32))])) _
    refine XS.istore X18.here hx rfl (hb hby d10_36) rfl (l' := #[.val (.ref o0), .val (.ref o1), .val (.int (0:Int32)), .val (.int (2:Int32)), .val (.int (0:Int32)), .val (.int (0:Int32))]) rfl ?_
    refine XS.iload X18.here hx rfl (hb hby d10_38) rfl ?_
    refine XS.iload X18.here hx rfl (hb hby d10_40) rfl ?_
    refine XS.icmpYes X18.here hx rfl (pc0 := 42) (pc' := 64) rfl (hb hby d10_42) rfl (flt ((by decide) : ¬ ((0:Int32) < (0:Int32)))).2.1 (by decide) (by decide) ?_
    refine XS.iinc X18.here hx rfl (hb hby d10_64) rfl (l' := #[.val (.ref o0), .val (.ref o1), .val (.int (0:Int32)), .val (.int (3:Int32)), .val (.int (0:Int32)), .val (.int (0:Int32))]) rfl ?_
    refine XS.goto X18.here hx rfl (pc0 := 67) (pc' := 4) rfl (hb hby d10_67) (by decide) (by decide) ?_
    refine XS.iloadN X18.here hx rfl (hb hby d10_4) rfl ?_
    refine XS.aloadN X18.here hx rfl (hb hby d10_5) rfl rfl ?_
    show Steps p.tables e below (T18.setTop (mkF m 6 #[.val (.ref o0), .val (.ref o1), .val (.int (0:Int32)), .val (.int (3:Int32)), .val (.int (0:Int32)), .val (.int (0:Int32))] [(.ref o1), (.int (3:Int32))])) _
    refine X18.arraylength hx (by rw [e18q]; exact Ar19.1) (State.isArrayOf_alike hZ.alike Ar19.2.1) (g := (mkF m 6 #[.val (.ref o0), .val (.ref o1), .val (.int (0:Int32)), .val (.int (3:Int32)), .val (.int (0:Int32)), .val (.int (0:Int32))] [(.ref o1), (.int (3:Int32))])) rfl rfl (hb hby d10_6) _ ?_
    rw [len_of S19 N19']
    show Steps p.tables e below (T18.setTop (mkF m 7 #[.val (.ref o0), .val (.ref o1), .val (.int (0:Int32)), .val (.int (3:Int32)), .val (.int (0:Int32)), .val (.int (0:Int32))] [(.int (3:Int32)), (.int (3:Int32))])) _
    refine XS.icmpYes X18.here hx rfl (pc0 := 7) (pc' := 70) rfl (hb hby d10_7) rfl (flt ((by decide) : ¬ ((3:Int32) < (3:Int32)))).2.1 (by decide) (by decide) ?_
    refine XS.iloadN X18.here hx rfl (hb hby d10_70) rfl ?_
    show Steps p.tables e below (T18.setTop (mkF m 71 #[.val (.ref o0), .val (.ref o1), .val (.int (0:Int32)), .val (.int (3:Int32)), .val (.int (0:Int32)), .val (.int (0:Int32))] [(.int (0:Int32))])) _
    exact retI X18 hx Bd.returns (hb hby d10_71) hr
  · show rm10Q Z o0 o1 (3:Int32) h0 n0 _ T18.heap _
    rw [e18q]
    exact ⟨rfl, N18, rfl⟩
theorem pd_rm10_4_0 : parseMethodDescriptor "(I)I" = some ⟨[.int], some .int⟩ := by decide +kernel
theorem ef_rm10_4 (m : MethodId) (o0 : Nat) (o1 : Nat) : entryFrame m #[(.ref o0), (.ref o1)] 6 = mkF m 0 #[.val (.ref o0), .val (.ref o1), .unset, .unset, .unset, .unset] [] := by first | (simp [entryFrame, mkF, argsToLocals, Value.category]; done) | rfl
set_option maxRecDepth 65536 in
set_option maxHeartbeats 40000000 in
theorem rm10_4 (l : Launch) (Z : State) (aw : Array Value) (hw : ∀ d ∈ tables_1, d.before aw Z = true) (ws : List Jvm.Cond) (o0 : Nat) (o1 : Nat) (bn : Nat) (kn k1 : ClassId) (h0 : Heap) (n0 : Nat) (Z0 : n0 ≤ h0.size) (E_o0 : Exa Z h0 o0 "com/example/tavola/tavola/profile/CsvReader") (F_ends : Fld Z h0 o0 "com/example/tavola/tavola/profile/CsvReader" "ends" "[I" (.ref bn)) (V_bn : Arv Z h0 bn kn .int (16:Int32) [] (.int (0:Int32))) (V_o1 : Arv Z h0 o1 k1 .int (4:Int32) [] (.int (0:Int32))) :
    MetFree l (⟨"com/example/tavola/tavola/profile/CsvReader", "keyHash", "([I)I"⟩ : MethodName) (head1 (Jvm.Cond.code (⟨"com/example/tavola/tavola/profile/CsvReader", "keyHash", "([I)I"⟩ : MethodName) prog_81_method_11_code 6 (some .int) :: ws) ({ frames := 1, cells := 0, slots := 0, locals := 13 } : Room)) (fun a U => a = #[(.ref o0), (.ref o1)] ∧ Z.Warmed39 U.vm ∧ U.heap = h0) (fun _ _ _ _ _ => True) (fun _ U o U' => ∃ v L, o = .returned v ∧ rm10Q Z o0 o1 (4:Int32) h0 n0 v U'.heap L ∧ FrameEnd U o U' L ({ frames := 1, cells := 0, slots := 0, locals := 13 } : Room).cells ({ frames := 1, cells := 0, slots := 0, locals := 13 } : Room).slots) := by
  refine MetFree.of_bodySF (plainFor_of_name pn_10) hisR ?_
  intro p e s m args below meth c s₁ Bd hml0 hP hK
  obtain ⟨rfl, hZ, hh⟩ := hP
  have hx := Bd.exec
  have hby := Bd.bytes
  have hml : c.maxLocals = 6 := hml0
  have hown : s.vm.findClass "com/example/tavola/tavola/profile/CsvReader" = some m.cls := findClass_of_methodNamed Bd.named
  have hnm := (name_of_methodNamed Bd.named Bd.method).1
  have X0 : Stand p l e ({ frames := 1, cells := 0, slots := 0, locals := 13 } : Room) s m #[(.ref o0), (.ref o1)] below meth c s₁ [] 0 0 := Stand.of_body Bd
  have e0 : s₁.heap = h0 := by rw [← hh, Bd.state]; rfl
  have N0 := Fr.nil n0
  have pre0 : ∀ t, Steps p.tables e below (s₁.setTop (mkF m 0 #[.val (.ref o0), .val (.ref o1), .unset, .unset, .unset, .unset] [])) t → Steps p.tables e below (s₁.setTop (entryFrame m #[(.ref o0), (.ref o1)] 6)) t := fun t k => castTop (ef_rm10_4 m o0 o1) k
  obtain ⟨cl1, Ar1, -, S1, N1', -, -⟩ := id V_o1
  obtain ⟨T2, X2, e2, st2⟩ := getF X0 hx hZ hown (host := "") (Or.inl (hw _ (oG (i := 19) rfl))) Via.refl e0 F_ends (g := (mkF m 20 #[.val (.ref o0), .val (.ref o1), .val (.int (0:Int32)), .val (.int (0:Int32)), .unset, .unset] [(.ref o0)])) rfl rfl (hb hby d10_20)
  obtain ⟨cl3, Ar3, q3, S3, N3', H3, G3⟩ := id V_o1
  have hin3 : ¬ ((0:Int32) < 0 ∨ cl3.slots.size ≤ ((0:Int32)).toNatClampNeg) := inb_of S3 ⟨by decide, by decide⟩
  obtain ⟨cl4, Ar4, q4, S4, N4', H4, G4⟩ := id V_bn
  have hin4 : ¬ ((0:Int32) < 0 ∨ cl4.slots.size ≤ ((0:Int32)).toNatClampNeg) := inb_of S4 ⟨by decide, by decide⟩
  obtain ⟨cl5, Ar5, q5, S5, N5', H5, G5⟩ := id V_o1
  have hin5 : ¬ ((0:Int32) < 0 ∨ cl5.slots.size ≤ ((0:Int32)).toNatClampNeg) := inb_of S5 ⟨by decide, by decide⟩
  obtain ⟨cq6, q6, q6'⟩ := (E_o0).cell
  obtain ⟨_, _, ⟨T6, L6, k6, n6⟩, -, X6, ⟨Lc6, hQ6, l6, y6, z6⟩, st6⟩ := X2.privateBack hx (y := (⟨"com/example/tavola/tavola/profile/CsvReader", "start", "(I)I"⟩ : MethodName)) hown (mvT hZ (hw _ (oG (i := 70) rfl))) (mvT hZ (hw _ (oG (i := 71) rfl))) (own_selP hZ (hw _ (oG (i := 3) rfl)) (hw _ (oG (i := 71) rfl)) (hw _ (oG (i := 72) rfl)) (by decide)) (Cond.privateMethod_at (mvP hZ (hw _ (oG (i := 72) rfl)) (args := #[]))) (mvT hZ (hw _ (oG (i := 73) rfl))) (by decide) (backOf (W := 0) (rm8 l Z aw hw [] o0 h0 n0 Z0) hZ (hw _ (oG (i := 73) rfl)) (hw _ (oG (i := 4) rfl)) (by decide) (by decide)) (g := (mkF m 33 #[.val (.ref o0), .val (.ref o1), .val (.int (0:Int32)), .val (.int (0:Int32)), .val (.int (0:Int32)), .unset] [(.int (0:Int32)), (.ref o0)])) rfl (by rw [hml]; rfl) (Steps.refl _) (a := o0) (by rw [e2]; exact q6) q6' (argsL := [(.int (0:Int32))]) (rest := []) (lenOf pd_rm10_4_0 rfl) rfl (by show 2 * 0 + _ ≤ _; exact Nat.le_of_eq rfl) (hb hby d10_33) (fun _ _ => ⟨rfl, e2, (by decide : 0 + 0 ≤ _), (by decide : 0 + 0 ≤ _)⟩)
  dsimp only [Pt.U, Pt.locs, Pt.cells, Pt.slots] at X6 l6 y6 z6 st6 hQ6
  subst l6 y6 z6
  obtain ⟨rfl, N6q, e6q⟩ := hQ6
  have N6 := Fr.app N0 N6q
  obtain ⟨cl7, Ar7, -, S7, N7', -, -⟩ := id V_o1
  obtain ⟨T8, X8, e8, st8⟩ := getF X6 hx hZ hown (host := "") (Or.inl (hw _ (oG (i := 19) rfl))) Via.refl e6q F_ends (g := (mkF m 20 #[.val (.ref o0), .val (.ref o1), .val (.int (0:Int32)), .val (.int (1:Int32)), .val (.int (0:Int32)), .val (.int (0:Int32))] [(.ref o0)])) rfl rfl (hb hby d10_20)
  obtain ⟨cl9, Ar9, q9, S9, N9', H9, G9⟩ := id V_o1
  have hin9 : ¬ ((1:Int32) < 0 ∨ cl9.slots.size ≤ ((1:Int32)).toNatClampNeg) := inb_of S9 ⟨by decide, by decide⟩
  obtain ⟨cl10, Ar10, q10, S10, N10', H10, G10⟩ := id V_bn
  have hin10 : ¬ ((0:Int32) < 0 ∨ cl10.slots.size ≤ ((0:Int32)).toNatClampNeg) := inb_of S10 ⟨by decide, by decide⟩
  obtain ⟨cl11, Ar11, q11, S11, N11', H11, G11⟩ := id V_o1
  have hin11 : ¬ ((1:Int32) < 0 ∨ cl11.slots.size ≤ ((1:Int32)).toNatClampNeg) := inb_of S11 ⟨by decide, by decide⟩
  obtain ⟨cq12, q12, q12'⟩ := (E_o0).cell
  obtain ⟨_, _, ⟨T12, L12, k12, n12⟩, -, X12, ⟨Lc12, hQ12, l12, y12, z12⟩, st12⟩ := X8.privateBack hx (y := (⟨"com/example/tavola/tavola/profile/CsvReader", "start", "(I)I"⟩ : MethodName)) hown (mvT hZ (hw _ (oG (i := 70) rfl))) (mvT hZ (hw _ (oG (i := 71) rfl))) (own_selP hZ (hw _ (oG (i := 3) rfl)) (hw _ (oG (i := 71) rfl)) (hw _ (oG (i := 72) rfl)) (by decide)) (Cond.privateMethod_at (mvP hZ (hw _ (oG (i := 72) rfl)) (args := #[]))) (mvT hZ (hw _ (oG (i := 73) rfl))) (by decide) (backOf (W := 0) (rm8 l Z aw hw [] o0 h0 n0 Z0) hZ (hw _ (oG (i := 73) rfl)) (hw _ (oG (i := 4) rfl)) (by decide) (by decide)) (g := (mkF m 33 #[.val (.ref o0), .val (.ref o1), .val (.int (0:Int32)), .val (.int (1:Int32)), .val (.int (0:Int32)), .val (.int (0:Int32))] [(.int (0:Int32)), (.ref o0)])) rfl (by rw [hml]; rfl) (Steps.refl _) (a := o0) (by rw [e8]; exact q12) q12' (argsL := [(.int (0:Int32))]) (rest := []) (lenOf pd_rm10_4_0 rfl) rfl (by show 2 * 0 + _ ≤ _; exact Nat.le_of_eq rfl) (hb hby d10_33) (fun _ _ => ⟨rfl, e8, (by decide : 0 + 0 ≤ _), (by decide : 0 + 0 ≤ _)⟩)
  dsimp only [Pt.U, Pt.locs, Pt.cells, Pt.slots] at X12 l12 y12 z12 st12 hQ12
  subst l12 y12 z12
  obtain ⟨rfl, N12q, e12q⟩ := hQ12
  have N12 := Fr.app N6 N12q
  obtain ⟨cl13, Ar13, -, S13, N13', -, -⟩ := id V_o1
  obtain ⟨T14, X14, e14, st14⟩ := getF X12 hx hZ hown (host := "") (Or.inl (hw _ (oG (i := 19) rfl))) Via.refl e12q F_ends (g := (mkF m 20 #[.val (.ref o0), .val (.ref o1), .val (.int (0:Int32)), .val (.int (2:Int32)), .val (.int (0:Int32)), .val (.int (0:Int32))] [(.ref o0)])) rfl rfl (hb hby d10_20)
  obtain ⟨cl15, Ar15, q15, S15, N15', H15, G15⟩ := id V_o1
  have hin15 : ¬ ((2:Int32) < 0 ∨ cl15.slots.size ≤ ((2:Int32)).toNatClampNeg) := inb_of S15 ⟨by decide, by decide⟩
  obtain ⟨cl16, Ar16, q16, S16, N16', H16, G16⟩ := id V_bn
  have hin16 : ¬ ((0:Int32) < 0 ∨ cl16.slots.size ≤ ((0:Int32)).toNatClampNeg) := inb_of S16 ⟨by decide, by decide⟩
  obtain ⟨cl17, Ar17, q17, S17, N17', H17, G17⟩ := id V_o1
  have hin17 : ¬ ((2:Int32) < 0 ∨ cl17.slots.size ≤ ((2:Int32)).toNatClampNeg) := inb_of S17 ⟨by decide, by decide⟩
  obtain ⟨cq18, q18, q18'⟩ := (E_o0).cell
  obtain ⟨_, _, ⟨T18, L18, k18, n18⟩, -, X18, ⟨Lc18, hQ18, l18, y18, z18⟩, st18⟩ := X14.privateBack hx (y := (⟨"com/example/tavola/tavola/profile/CsvReader", "start", "(I)I"⟩ : MethodName)) hown (mvT hZ (hw _ (oG (i := 70) rfl))) (mvT hZ (hw _ (oG (i := 71) rfl))) (own_selP hZ (hw _ (oG (i := 3) rfl)) (hw _ (oG (i := 71) rfl)) (hw _ (oG (i := 72) rfl)) (by decide)) (Cond.privateMethod_at (mvP hZ (hw _ (oG (i := 72) rfl)) (args := #[]))) (mvT hZ (hw _ (oG (i := 73) rfl))) (by decide) (backOf (W := 0) (rm8 l Z aw hw [] o0 h0 n0 Z0) hZ (hw _ (oG (i := 73) rfl)) (hw _ (oG (i := 4) rfl)) (by decide) (by decide)) (g := (mkF m 33 #[.val (.ref o0), .val (.ref o1), .val (.int (0:Int32)), .val (.int (2:Int32)), .val (.int (0:Int32)), .val (.int (0:Int32))] [(.int (0:Int32)), (.ref o0)])) rfl (by rw [hml]; rfl) (Steps.refl _) (a := o0) (by rw [e14]; exact q18) q18' (argsL := [(.int (0:Int32))]) (rest := []) (lenOf pd_rm10_4_0 rfl) rfl (by show 2 * 0 + _ ≤ _; exact Nat.le_of_eq rfl) (hb hby d10_33) (fun _ _ => ⟨rfl, e14, (by decide : 0 + 0 ≤ _), (by decide : 0 + 0 ≤ _)⟩)
  dsimp only [Pt.U, Pt.locs, Pt.cells, Pt.slots] at X18 l18 y18 z18 st18 hQ18
  subst l18 y18 z18
  obtain ⟨rfl, N18q, e18q⟩ := hQ18
  have N18 := Fr.app N12 N18q
  obtain ⟨cl19, Ar19, -, S19, N19', -, -⟩ := id V_o1
  obtain ⟨T20, X20, e20, st20⟩ := getF X18 hx hZ hown (host := "") (Or.inl (hw _ (oG (i := 19) rfl))) Via.refl e18q F_ends (g := (mkF m 20 #[.val (.ref o0), .val (.ref o1), .val (.int (0:Int32)), .val (.int (3:Int32)), .val (.int (0:Int32)), .val (.int (0:Int32))] [(.ref o0)])) rfl rfl (hb hby d10_20)
  obtain ⟨cl21, Ar21, q21, S21, N21', H21, G21⟩ := id V_o1
  have hin21 : ¬ ((3:Int32) < 0 ∨ cl21.slots.size ≤ ((3:Int32)).toNatClampNeg) := inb_of S21 ⟨by decide, by decide⟩
  obtain ⟨cl22, Ar22, q22, S22, N22', H22, G22⟩ := id V_bn
  have hin22 : ¬ ((0:Int32) < 0 ∨ cl22.slots.size ≤ ((0:Int32)).toNatClampNeg) := inb_of S22 ⟨by decide, by decide⟩
  obtain ⟨cl23, Ar23, q23, S23, N23', H23, G23⟩ := id V_o1
  have hin23 : ¬ ((3:Int32) < 0 ∨ cl23.slots.size ≤ ((3:Int32)).toNatClampNeg) := inb_of S23 ⟨by decide, by decide⟩
  obtain ⟨cq24, q24, q24'⟩ := (E_o0).cell
  obtain ⟨_, _, ⟨T24, L24, k24, n24⟩, -, X24, ⟨Lc24, hQ24, l24, y24, z24⟩, st24⟩ := X20.privateBack hx (y := (⟨"com/example/tavola/tavola/profile/CsvReader", "start", "(I)I"⟩ : MethodName)) hown (mvT hZ (hw _ (oG (i := 70) rfl))) (mvT hZ (hw _ (oG (i := 71) rfl))) (own_selP hZ (hw _ (oG (i := 3) rfl)) (hw _ (oG (i := 71) rfl)) (hw _ (oG (i := 72) rfl)) (by decide)) (Cond.privateMethod_at (mvP hZ (hw _ (oG (i := 72) rfl)) (args := #[]))) (mvT hZ (hw _ (oG (i := 73) rfl))) (by decide) (backOf (W := 0) (rm8 l Z aw hw [] o0 h0 n0 Z0) hZ (hw _ (oG (i := 73) rfl)) (hw _ (oG (i := 4) rfl)) (by decide) (by decide)) (g := (mkF m 33 #[.val (.ref o0), .val (.ref o1), .val (.int (0:Int32)), .val (.int (3:Int32)), .val (.int (0:Int32)), .val (.int (0:Int32))] [(.int (0:Int32)), (.ref o0)])) rfl (by rw [hml]; rfl) (Steps.refl _) (a := o0) (by rw [e20]; exact q24) q24' (argsL := [(.int (0:Int32))]) (rest := []) (lenOf pd_rm10_4_0 rfl) rfl (by show 2 * 0 + _ ≤ _; exact Nat.le_of_eq rfl) (hb hby d10_33) (fun _ _ => ⟨rfl, e20, (by decide : 0 + 0 ≤ _), (by decide : 0 + 0 ≤ _)⟩)
  dsimp only [Pt.U, Pt.locs, Pt.cells, Pt.slots] at X24 l24 y24 z24 st24 hQ24
  subst l24 y24 z24
  obtain ⟨rfl, N24q, e24q⟩ := hQ24
  have N24 := Fr.app N18 N24q
  obtain ⟨cl25, Ar25, -, S25, N25', -, -⟩ := id V_o1
  obtain ⟨fs, hr, hrun, hended, hW, hsame⟩ := X24.leave (v := some (.int (0:Int32))) (fun h => by rw [Bd.returns] at h; cases h)
  refine ⟨_, _, pre0 _ ?_, hrun, hended, _, _, rfl, ?_, ⟨_, rfl⟩, hW, hsame.mono (by decide) (by decide)⟩
  · show Steps p.tables e below (s₁.setTop (mkF m 0 #[.val (.ref o0), .val (.ref o1), .unset, .unset, .unset, .unset] [])) _
    refine XS.iconst X0.here hx rfl (hb hby d10_0) ?_
    refine XS.istoreN X0.here hx rfl (hb hby d10_1) rfl (l' := #[.val (.ref o0), .val (.ref o1), .val (.int (0:Int32)), .unset, .unset, .unset]) rfl ?_
    refine XS.iconst X0.here hx rfl (hb hby d10_2) ?_
    refine XS.istoreN X0.here hx rfl (hb hby d10_3) rfl (l' := #[.val (.ref o0), .val (.ref o1), .val (.int (0:Int32)), .val (.int (0:Int32)), .unset, .unset]) rfl ?_
    refine XS.iloadN X0.here hx rfl (hb hby d10_4) rfl ?_
    refine XS.aloadN X0.here hx rfl (hb hby d10_5) rfl rfl ?_
    show Steps p.tables e below (s₁.setTop (mkF m 6 #[.val (.ref o0), .val (.ref o1), .val (.int (0:Int32)), .val (.int (0:Int32)), .unset, .unset] [(.ref o1), (.int (0:Int32))])) _
    refine X0.arraylength hx (by rw [e0]; exact Ar1.1) (State.isArrayOf_alike hZ.alike Ar1.2.1) (g := (mkF m 6 #[.val (.ref o0), .val (.ref o1), .val (.int (0:Int32)), .val (.int (0:Int32)), .unset, .unset] [(.ref o1), (.int (0:Int32))])) rfl rfl (hb hby d10_6) _ ?_
    rw [len_of S1 N1']
    show Steps p.tables e below (s₁.setTop (mkF m 7 #[.val (.ref o0), .val (.ref o1), .val (.int (0:Int32)), .val (.int (0:Int32)), .unset, .unset] [(.int (4:Int32)), (.int (0:Int32))])) _
    refine XS.icmpNo X0.here hx rfl (hb hby d10_7) rfl (tlt ((by decide) : (0:Int32) < (4:Int32))).2.1 ?_
    refine XS.iloadN X0.here hx rfl (hb hby d10_10) rfl ?_
    refine XS.ifYes X0.here hx rfl (pc0 := 11) (pc' := 19) rfl (hb hby d10_11) rfl ((if0 _ _).trans (flt ((by decide) : ¬ ((0:Int32) < (0:Int32)))).2.2.2) (by decide) (by decide) ?_
    refine XS.aloadN X0.here hx rfl (hb hby d10_19) rfl rfl ?_
    show Steps p.tables e below (s₁.setTop (mkF m 20 #[.val (.ref o0), .val (.ref o1), .val (.int (0:Int32)), .val (.int (0:Int32)), .unset, .unset] [(.ref o0)])) _
    refine st2 _ ?_
    show Steps p.tables e below (T2.setTop (mkF m 23 #[.val (.ref o0), .val (.ref o1), .val (.int (0:Int32)), .val (.int (0:Int32)), .unset, .unset] [(.ref bn)])) _
    refine XS.aloadN X2.here hx rfl (hb hby d10_23) rfl rfl ?_
    refine XS.iloadN X2.here hx rfl (hb hby d10_24) rfl ?_
    show Steps p.tables e below (T2.setTop (mkF m 25 #[.val (.ref o0), .val (.ref o1), .val (.int (0:Int32)), .val (.int (0:Int32)), .unset, .unset] [(.int (0:Int32)), (.ref o1), (.ref bn)])) _
    refine X2.iaload hx (j := (0:Int32)) (v := (.int (0:Int32))) (by rw [e2]; exact Ar3.1) (State.isArrayOf_alike hZ.alike Ar3.2.1) Ar3.2.2 hin3 (H3.at hin3 rfl) (g := (mkF m 25 #[.val (.ref o0), .val (.ref o1), .val (.int (0:Int32)), .val (.int (0:Int32)), .unset, .unset] [(.int (0:Int32)), (.ref o1), (.ref bn)])) rfl rfl (hb hby d10_25) _ ?_
    show Steps p.tables e below (T2.setTop (mkF m 26 #[.val (.ref o0), .val (.ref o1), .val (.int (0:Int32)), .val (.int (0:Int32)), .unset, .unset] [(.int (0:Int32)), (.ref bn)])) _
    refine X2.iaload hx (j := (0:Int32)) (v := (.int (0:Int32))) (by rw [e2]; exact Ar4.1) (State.isArrayOf_alike hZ.alike Ar4.2.1) Ar4.2.2 hin4 (H4.at hin4 rfl) (g := (mkF m 26 #[.val (.ref o0), .val (.ref o1), .val (.int (0:Int32)), .val (.int (0:Int32)), .unset, .unset] [(.int (0:Int32)), (.ref bn)])) rfl rfl (hb hby d10_26) _ ?_
    show Steps p.tables e below (T2.setTop (mkF m 27 #[.val (.ref o0), .val (.ref o1), .val (.int (0:Int32)), .val (.int (0:Int32)), .unset, .unset] [(.int (0:Int32))])) _
    refine XS.istore X2.here hx rfl (hb hby d10_27) rfl (l' := #[.val (.ref o0), .val (.ref o1), .val (.int (0:Int32)), .val (.int (0:Int32)), .val (.int (0:Int32)), .unset]) rfl ?_
    refine XS.aloadN X2.here hx rfl (hb hby d10_29) rfl rfl ?_
    refine XS.aloadN X2.here hx rfl (hb hby d10_30) rfl rfl ?_
    refine XS.iloadN X2.here hx rfl (hb hby d10_31) rfl ?_
    show Steps p.tables e below (T2.setTop (mkF m 32 #[.val (.ref o0), .val (.ref o1), .val (.int (0:Int32)), .val (.int (0:Int32)), .val (.int (0:Int32)), .unset] [(.int (0:Int32)), (.ref o1), (.ref o0)])) _
    refine X2.iaload hx (j := (0:Int32)) (v := (.int (0:Int32))) (by rw [e2]; exact Ar5.1) (State.isArrayOf_alike hZ.alike Ar5.2.1) Ar5.2.2 hin5 (H5.at hin5 rfl) (g := (mkF m 32 #[.val (.ref o0), .val (.ref o1), .val (.int (0:Int32)), .val (.int (0:Int32)), .val (.int (0:Int32)), .unset] [(.int (0:Int32)), (.ref o1), (.ref o0)])) rfl rfl (hb hby d10_32) _ ?_
    show Steps p.tables e below (T2.setTop (mkF m 33 #[.val (.ref o0), .val (.ref o1), .val (.int (0:Int32)), .val (.int (0:Int32)), .val (.int (0:Int32)), .unset] [(.int (0:Int32)), (.ref o0)])) _
    refine st6.trans ?_
    show Steps p.tables e below (T6.setTop (mkF m 36 #[.val (.ref o0), .val (.ref o1), .val (.int (0:Int32)), .val (.int (0:Int32)), .val (.int (0:Int32)), .unset] [(.int (0:Int32))])) _
    refine XS.istore X6.here hx rfl (hb hby d10_36) rfl (l' := #[.val (.ref o0), .val (.ref o1), .val (.int (0:Int32)), .val (.int (0:Int32)), .val (.int (0:Int32)), .val (.int (0:Int32))]) rfl ?_
    refine XS.iload X6.here hx rfl (hb hby d10_38) rfl ?_
    refine XS.iload X6.here hx rfl (hb hby d10_40) rfl ?_
    refine XS.icmpYes X6.here hx rfl (pc0 := 42) (pc' := 64) rfl (hb hby d10_42) rfl (flt ((by decide) : ¬ ((0:Int32) < (0:Int32)))).2.1 (by decide) (by decide) ?_
    refine XS.iinc X6.here hx rfl (hb hby d10_64) rfl (l' := #[.val (.ref o0), .val (.ref o1), .val (.int (0:Int32)), .val (.int (1:Int32)), .val (.int (0:Int32)), .val (.int (0:Int32))]) rfl ?_
    refine XS.goto X6.here hx rfl (pc0 := 67) (pc' := 4) rfl (hb hby d10_67) (by decide) (by decide) ?_
    refine XS.iloadN X6.here hx rfl (hb hby d10_4) rfl ?_
    refine XS.aloadN X6.here hx rfl (hb hby d10_5) rfl rfl ?_
    show Steps p.tables e below (T6.setTop (mkF m 6 #[.val (.ref o0), .val (.ref o1), .val (.int (0:Int32)), .val (.int (1:Int32)), .val (.int (0:Int32)), .val (.int (0:Int32))] [(.ref o1), (.int (1:Int32))])) _
    refine X6.arraylength hx (by rw [e6q]; exact Ar7.1) (State.isArrayOf_alike hZ.alike Ar7.2.1) (g := (mkF m 6 #[.val (.ref o0), .val (.ref o1), .val (.int (0:Int32)), .val (.int (1:Int32)), .val (.int (0:Int32)), .val (.int (0:Int32))] [(.ref o1), (.int (1:Int32))])) rfl rfl (hb hby d10_6) _ ?_
    rw [len_of S7 N7']
    show Steps p.tables e below (T6.setTop (mkF m 7 #[.val (.ref o0), .val (.ref o1), .val (.int (0:Int32)), .val (.int (1:Int32)), .val (.int (0:Int32)), .val (.int (0:Int32))] [(.int (4:Int32)), (.int (1:Int32))])) _
    refine XS.icmpNo X6.here hx rfl (hb hby d10_7) rfl (tlt ((by decide) : (1:Int32) < (4:Int32))).2.1 ?_
    refine XS.iloadN X6.here hx rfl (hb hby d10_10) rfl ?_
    refine XS.ifNo X6.here hx rfl (hb hby d10_11) rfl ((if0 _ _).trans (tlt ((by decide) : (0:Int32) < (1:Int32))).2.2.2) ?_
    refine XS.bipush X6.here hx rfl (hb hby d10_14) ?_
    refine XS.iloadN X6.here hx rfl (hb hby d10_16) rfl ?_
    show Steps p.tables e below (T6.setTop (mkF m 17 #[.val (.ref o0), .val (.ref o1), .val (.int (0:Int32)), .val (.int (1:Int32)), .val (.int (0:Int32)), .val (.int (0:Int32))] [(.int (0:Int32)), (.int (31:Int32))])) _
    refine XS.imul X6.here hx rfl (hb hby d10_17) rfl ?_
    rw [show ((31:Int32) * (0:Int32)) = (0:Int32) from by decide]
    show Steps p.tables e below (T6.setTop (mkF m 18 #[.val (.ref o0), .val (.ref o1), .val (.int (0:Int32)), .val (.int (1:Int32)), .val (.int (0:Int32)), .val (.int (0:Int32))] [(.int (0:Int32))])) _
    refine XS.istoreN X6.here hx rfl (hb hby d10_18) rfl (l' := #[.val (.ref o0), .val (.ref o1), .val (.int (0:Int32)), .val (.int (1:Int32)), .val (.int (0:Int32)), .val (.int (0:Int32))]) rfl ?_
    refine XS.aloadN X6.here hx rfl (hb hby d10_19) rfl rfl ?_
    show Steps p.tables e below (T6.setTop (mkF m 20 #[.val (.ref o0), .val (.ref o1), .val (.int (0:Int32)), .val (.int (1:Int32)), .val (.int (0:Int32)), .val (.int (0:Int32))] [(.ref o0)])) _
    refine st8 _ ?_
    show Steps p.tables e below (T8.setTop (mkF m 23 #[.val (.ref o0), .val (.ref o1), .val (.int (0:Int32)), .val (.int (1:Int32)), .val (.int (0:Int32)), .val (.int (0:Int32))] [(.ref bn)])) _
    refine XS.aloadN X8.here hx rfl (hb hby d10_23) rfl rfl ?_
    refine XS.iloadN X8.here hx rfl (hb hby d10_24) rfl ?_
    show Steps p.tables e below (T8.setTop (mkF m 25 #[.val (.ref o0), .val (.ref o1), .val (.int (0:Int32)), .val (.int (1:Int32)), .val (.int (0:Int32)), .val (.int (0:Int32))] [(.int (1:Int32)), (.ref o1), (.ref bn)])) _
    refine X8.iaload hx (j := (1:Int32)) (v := (.int (0:Int32))) (by rw [e8]; exact Ar9.1) (State.isArrayOf_alike hZ.alike Ar9.2.1) Ar9.2.2 hin9 (H9.at hin9 rfl) (g := (mkF m 25 #[.val (.ref o0), .val (.ref o1), .val (.int (0:Int32)), .val (.int (1:Int32)), .val (.int (0:Int32)), .val (.int (0:Int32))] [(.int (1:Int32)), (.ref o1), (.ref bn)])) rfl rfl (hb hby d10_25) _ ?_
    show Steps p.tables e below (T8.setTop (mkF m 26 #[.val (.ref o0), .val (.ref o1), .val (.int (0:Int32)), .val (.int (1:Int32)), .val (.int (0:Int32)), .val (.int (0:Int32))] [(.int (0:Int32)), (.ref bn)])) _
    refine X8.iaload hx (j := (0:Int32)) (v := (.int (0:Int32))) (by rw [e8]; exact Ar10.1) (State.isArrayOf_alike hZ.alike Ar10.2.1) Ar10.2.2 hin10 (H10.at hin10 rfl) (g := (mkF m 26 #[.val (.ref o0), .val (.ref o1), .val (.int (0:Int32)), .val (.int (1:Int32)), .val (.int (0:Int32)), .val (.int (0:Int32))] [(.int (0:Int32)), (.ref bn)])) rfl rfl (hb hby d10_26) _ ?_
    show Steps p.tables e below (T8.setTop (mkF m 27 #[.val (.ref o0), .val (.ref o1), .val (.int (0:Int32)), .val (.int (1:Int32)), .val (.int (0:Int32)), .val (.int (0:Int32))] [(.int (0:Int32))])) _
    refine XS.istore X8.here hx rfl (hb hby d10_27) rfl (l' := #[.val (.ref o0), .val (.ref o1), .val (.int (0:Int32)), .val (.int (1:Int32)), .val (.int (0:Int32)), .val (.int (0:Int32))]) rfl ?_
    refine XS.aloadN X8.here hx rfl (hb hby d10_29) rfl rfl ?_
    refine XS.aloadN X8.here hx rfl (hb hby d10_30) rfl rfl ?_
    refine XS.iloadN X8.here hx rfl (hb hby d10_31) rfl ?_
    show Steps p.tables e below (T8.setTop (mkF m 32 #[.val (.ref o0), .val (.ref o1), .val (.int (0:Int32)), .val (.int (1:Int32)), .val (.int (0:Int32)), .val (.int (0:Int32))] [(.int (1:Int32)), (.ref o1), (.ref o0)])) _
    refine X8.iaload hx (j := (1:Int32)) (v := (.int (0:Int32))) (by rw [e8]; exact Ar11.1) (State.isArrayOf_alike hZ.alike Ar11.2.1) Ar11.2.2 hin11 (H11.at hin11 rfl) (g := (mkF m 32 #[.val (.ref o0), .val (.ref o1), .val (.int (0:Int32)), .val (.int (1:Int32)), .val (.int (0:Int32)), .val (.int (0:Int32))] [(.int (1:Int32)), (.ref o1), (.ref o0)])) rfl rfl (hb hby d10_32) _ ?_
    show Steps p.tables e below (T8.setTop (mkF m 33 #[.val (.ref o0), .val (.ref o1), .val (.int (0:Int32)), .val (.int (1:Int32)), .val (.int (0:Int32)), .val (.int (0:Int32))] [(.int (0:Int32)), (.ref o0)])) _
    refine st12.trans ?_
    show Steps p.tables e below (T12.setTop (mkF m 36 #[.val (.ref o0), .val (.ref o1), .val (.int (0:Int32)), .val (.int (1:Int32)), .val (.int (0:Int32)), .val (.int (0:Int32))] [(.int (0:Int32))])) _
    refine XS.istore X12.here hx rfl (hb hby d10_36) rfl (l' := #[.val (.ref o0), .val (.ref o1), .val (.int (0:Int32)), .val (.int (1:Int32)), .val (.int (0:Int32)), .val (.int (0:Int32))]) rfl ?_
    refine XS.iload X12.here hx rfl (hb hby d10_38) rfl ?_
    refine XS.iload X12.here hx rfl (hb hby d10_40) rfl ?_
    refine XS.icmpYes X12.here hx rfl (pc0 := 42) (pc' := 64) rfl (hb hby d10_42) rfl (flt ((by decide) : ¬ ((0:Int32) < (0:Int32)))).2.1 (by decide) (by decide) ?_
    refine XS.iinc X12.here hx rfl (hb hby d10_64) rfl (l' := #[.val (.ref o0), .val (.ref o1), .val (.int (0:Int32)), .val (.int (2:Int32)), .val (.int (0:Int32)), .val (.int (0:Int32))]) rfl ?_
    refine XS.goto X12.here hx rfl (pc0 := 67) (pc' := 4) rfl (hb hby d10_67) (by decide) (by decide) ?_
    refine XS.iloadN X12.here hx rfl (hb hby d10_4) rfl ?_
    refine XS.aloadN X12.here hx rfl (hb hby d10_5) rfl rfl ?_
    show Steps p.tables e below (T12.setTop (mkF m 6 #[.val (.ref o0), .val (.ref o1), .val (.int (0:Int32)), .val (.int (2:Int32)), .val (.int (0:Int32)), .val (.int (0:Int32))] [(.ref o1), (.int (2:Int32))])) _
    refine X12.arraylength hx (by rw [e12q]; exact Ar13.1) (State.isArrayOf_alike hZ.alike Ar13.2.1) (g := (mkF m 6 #[.val (.ref o0), .val (.ref o1), .val (.int (0:Int32)), .val (.int (2:Int32)), .val (.int (0:Int32)), .val (.int (0:Int32))] [(.ref o1), (.int (2:Int32))])) rfl rfl (hb hby d10_6) _ ?_
    rw [len_of S13 N13']
    show Steps p.tables e below (T12.setTop (mkF m 7 #[.val (.ref o0), .val (.ref o1), .val (.int (0:Int32)), .val (.int (2:Int32)), .val (.int (0:Int32)), .val (.int (0:Int32))] [(.int (4:Int32)), (.int (2:Int32))])) _
    refine XS.icmpNo X12.here hx rfl (hb hby d10_7) rfl (tlt ((by decide) : (2:Int32) < (4:Int32))).2.1 ?_
    refine XS.iloadN X12.here hx rfl (hb hby d10_10) rfl ?_
    refine XS.ifNo X12.here hx rfl (hb hby d10_11) rfl ((if0 _ _).trans (tlt ((by decide) : (0:Int32) < (2:Int32))).2.2.2) ?_
    refine XS.bipush X12.here hx rfl (hb hby d10_14) ?_
    refine XS.iloadN X12.here hx rfl (hb hby d10_16) rfl ?_
    show Steps p.tables e below (T12.setTop (mkF m 17 #[.val (.ref o0), .val (.ref o1), .val (.int (0:Int32)), .val (.int (2:Int32)), .val (.int (0:Int32)), .val (.int (0:Int32))] [(.int (0:Int32)), (.int (31:Int32))])) _
    refine XS.imul X12.here hx rfl (hb hby d10_17) rfl ?_
    rw [show ((31:Int32) * (0:Int32)) = (0:Int32) from by decide]
    show Steps p.tables e below (T12.setTop (mkF m 18 #[.val (.ref o0), .val (.ref o1), .val (.int (0:Int32)), .val (.int (2:Int32)), .val (.int (0:Int32)), .val (.int (0:Int32))] [(.int (0:Int32))])) _
    refine XS.istoreN X12.here hx rfl (hb hby d10_18) rfl (l' := #[.val (.ref o0), .val (.ref o1), .val (.int (0:Int32)), .val (.int (2:Int32)), .val (.int (0:Int32)), .val (.int (0:Int32))]) rfl ?_
    refine XS.aloadN X12.here hx rfl (hb hby d10_19) rfl rfl ?_
    show Steps p.tables e below (T12.setTop (mkF m 20 #[.val (.ref o0), .val (.ref o1), .val (.int (0:Int32)), .val (.int (2:Int32)), .val (.int (0:Int32)), .val (.int (0:Int32))] [(.ref o0)])) _
    refine st14 _ ?_
    show Steps p.tables e below (T14.setTop (mkF m 23 #[.val (.ref o0), .val (.ref o1), .val (.int (0:Int32)), .val (.int (2:Int32)), .val (.int (0:Int32)), .val (.int (0:Int32))] [(.ref bn)])) _
    refine XS.aloadN X14.here hx rfl (hb hby d10_23) rfl rfl ?_
    refine XS.iloadN X14.here hx rfl (hb hby d10_24) rfl ?_
    show Steps p.tables e below (T14.setTop (mkF m 25 #[.val (.ref o0), .val (.ref o1), .val (.int (0:Int32)), .val (.int (2:Int32)), .val (.int (0:Int32)), .val (.int (0:Int32))] [(.int (2:Int32)), (.ref o1), (.ref bn)])) _
    refine X14.iaload hx (j := (2:Int32)) (v := (.int (0:Int32))) (by rw [e14]; exact Ar15.1) (State.isArrayOf_alike hZ.alike Ar15.2.1) Ar15.2.2 hin15 (H15.at hin15 rfl) (g := (mkF m 25 #[.val (.ref o0), .val (.ref o1), .val (.int (0:Int32)), .val (.int (2:Int32)), .val (.int (0:Int32)), .val (.int (0:Int32))] [(.int (2:Int32)), (.ref o1), (.ref bn)])) rfl rfl (hb hby d10_25) _ ?_
    show Steps p.tables e below (T14.setTop (mkF m 26 #[.val (.ref o0), .val (.ref o1), .val (.int (0:Int32)), .val (.int (2:Int32)), .val (.int (0:Int32)), .val (.int (0:Int32))] [(.int (0:Int32)), (.ref bn)])) _
    refine X14.iaload hx (j := (0:Int32)) (v := (.int (0:Int32))) (by rw [e14]; exact Ar16.1) (State.isArrayOf_alike hZ.alike Ar16.2.1) Ar16.2.2 hin16 (H16.at hin16 rfl) (g := (mkF m 26 #[.val (.ref o0), .val (.ref o1), .val (.int (0:Int32)), .val (.int (2:Int32)), .val (.int (0:Int32)), .val (.int (0:Int32))] [(.int (0:Int32)), (.ref bn)])) rfl rfl (hb hby d10_26) _ ?_
    show Steps p.tables e below (T14.setTop (mkF m 27 #[.val (.ref o0), .val (.ref o1), .val (.int (0:Int32)), .val (.int (2:Int32)), .val (.int (0:Int32)), .val (.int (0:Int32))] [(.int (0:Int32))])) _
    refine XS.istore X14.here hx rfl (hb hby d10_27) rfl (l' := #[.val (.ref o0), .val (.ref o1), .val (.int (0:Int32)), .val (.int (2:Int32)), .val (.int (0:Int32)), .val (.int (0:Int32))]) rfl ?_
    refine XS.aloadN X14.here hx rfl (hb hby d10_29) rfl rfl ?_
    refine XS.aloadN X14.here hx rfl (hb hby d10_30) rfl rfl ?_
    refine XS.iloadN X14.here hx rfl (hb hby d10_31) rfl ?_
    show Steps p.tables e below (T14.setTop (mkF m 32 #[.val (.ref o0), .val (.ref o1), .val (.int (0:Int32)), .val (.int (2:Int32)), .val (.int (0:Int32)), .val (.int (0:Int32))] [(.int (2:Int32)), (.ref o1), (.ref o0)])) _
    refine X14.iaload hx (j := (2:Int32)) (v := (.int (0:Int32))) (by rw [e14]; exact Ar17.1) (State.isArrayOf_alike hZ.alike Ar17.2.1) Ar17.2.2 hin17 (H17.at hin17 rfl) (g := (mkF m 32 #[.val (.ref o0), .val (.ref o1), .val (.int (0:Int32)), .val (.int (2:Int32)), .val (.int (0:Int32)), .val (.int (0:Int32))] [(.int (2:Int32)), (.ref o1), (.ref o0)])) rfl rfl (hb hby d10_32) _ ?_
    show Steps p.tables e below (T14.setTop (mkF m 33 #[.val (.ref o0), .val (.ref o1), .val (.int (0:Int32)), .val (.int (2:Int32)), .val (.int (0:Int32)), .val (.int (0:Int32))] [(.int (0:Int32)), (.ref o0)])) _
    refine st18.trans ?_
    show Steps p.tables e below (T18.setTop (mkF m 36 #[.val (.ref o0), .val (.ref o1), .val (.int (0:Int32)), .val (.int (2:Int32)), .val (.int (0:Int32)), .val (.int (0:Int32))] [(.int (0:Int32))])) _
    refine XS.istore X18.here hx rfl (hb hby d10_36) rfl (l' := #[.val (.ref o0), .val (.ref o1), .val (.int (0:Int32)), .val (.int (2:Int32)), .val (.int (0:Int32)), .val (.int (0:Int32))]) rfl ?_
    refine XS.iload X18.here hx rfl (hb hby d10_38) rfl ?_
    refine XS.iload X18.here hx rfl (hb hby d10_40) rfl ?_
    refine XS.icmpYes X18.here hx rfl (pc0 := 42) (pc' := 64) rfl (hb hby d10_42) rfl (flt ((by decide) : ¬ ((0:Int32) < (0:Int32)))).2.1 (by decide) (by decide) ?_
    refine XS.iinc X18.here hx rfl (hb hby d10_64) rfl (l' := #[.val (.ref o0), .val (.ref o1), .val (.int (0:Int32)), .val (.int (3:Int32)), .val (.int (0:Int32)), .val (.int (0:Int32))]) rfl ?_
    refine XS.goto X18.here hx rfl (pc0 := 67) (pc' := 4) rfl (hb hby d10_67) (by decide) (by decide) ?_
    refine XS.iloadN X18.here hx rfl (hb hby d10_4) rfl ?_
    refine XS.aloadN X18.here hx rfl (hb hby d10_5) rfl rfl ?_
    show Steps p.tables e below (T18.setTop (mkF m 6 #[.val (.ref o0), .val (.ref o1), .val (.int (0:Int32)), .val (.int (3:Int32)), .val (.int (0:Int32)), .val (.int (0:Int32))] [(.ref o1), (.int (3:Int32))])) _
    refine X18.arraylength hx (by rw [e18q]; exact Ar19.1) (State.isArrayOf_alike hZ.alike Ar19.2.1) (g := (mkF m 6 #[.val (.ref o0), .val (.ref o1), .val (.int (0:Int32)), .val (.int (3:Int32)), .val (.int (0:Int32)), .val (.int (0:Int32))] [(.ref o1), (.int (3:Int32))])) rfl rfl (hb hby d10_6) _ ?_
    rw [len_of S19 N19']
    show Steps p.tables e below (T18.setTop (mkF m 7 #[.val (.ref o0), .val (.ref o1), .val (.int (0:Int32)), .val (.int (3:Int32)), .val (.int (0:Int32)), .val (.int (0:Int32))] [(.int (4:Int32)), (.int (3:Int32))])) _
    refine XS.icmpNo X18.here hx rfl (hb hby d10_7) rfl (tlt ((by decide) : (3:Int32) < (4:Int32))).2.1 ?_
    refine XS.iloadN X18.here hx rfl (hb hby d10_10) rfl ?_
    refine XS.ifNo X18.here hx rfl (hb hby d10_11) rfl ((if0 _ _).trans (tlt ((by decide) : (0:Int32) < (3:Int32))).2.2.2) ?_
    refine XS.bipush X18.here hx rfl (hb hby d10_14) ?_
    refine XS.iloadN X18.here hx rfl (hb hby d10_16) rfl ?_
    show Steps p.tables e below (T18.setTop (mkF m 17 #[.val (.ref o0), .val (.ref o1), .val (.int (0:Int32)), .val (.int (3:Int32)), .val (.int (0:Int32)), .val (.int (0:Int32))] [(.int (0:Int32)), (.int (31:Int32))])) _
    refine XS.imul X18.here hx rfl (hb hby d10_17) rfl ?_
    rw [show ((31:Int32) * (0:Int32)) = (0:Int32) from by decide]
    show Steps p.tables e below (T18.setTop (mkF m 18 #[.val (.ref o0), .val (.ref o1), .val (.int (0:Int32)), .val (.int (3:Int32)), .val (.int (0:Int32)), .val (.int (0:Int32))] [(.int (0:Int32))])) _
    refine XS.istoreN X18.here hx rfl (hb hby d10_18) rfl (l' := #[.val (.ref o0), .val (.ref o1), .val (.int (0:Int32)), .val (.int (3:Int32)), .val (.int (0:Int32)), .val (.int (0:Int32))]) rfl ?_
    refine XS.aloadN X18.here hx rfl (hb hby d10_19) rfl rfl ?_
    show Steps p.tables e below (T18.setTop (mkF m 20 #[.val (.ref o0), .val (.ref o1), .val (.int (0:Int32)), .val (.int (3:Int32)), .val (.int (0:Int32)), .val (.int (0:Int32))] [(.ref o0)])) _
    refine st20 _ ?_
    show Steps p.tables e below (T20.setTop (mkF m 23 #[.val (.ref o0), .val (.ref o1), .val (.int (0:Int32)), .val (.int (3:Int32)), .val (.int (0:Int32)), .val (.int (0:Int32))] [(.ref bn)])) _
    refine XS.aloadN X20.here hx rfl (hb hby d10_23) rfl rfl ?_
    refine XS.iloadN X20.here hx rfl (hb hby d10_24) rfl ?_
    show Steps p.tables e below (T20.setTop (mkF m 25 #[.val (.ref o0), .val (.ref o1), .val (.int (0:Int32)), .val (.int (3:Int32)), .val (.int (0:Int32)), .val (.int (0:Int32))] [(.int (3:Int32)), (.ref o1), (.ref bn)])) _
    refine X20.iaload hx (j := (3:Int32)) (v := (.int (0:Int32))) (by rw [e20]; exact Ar21.1) (State.isArrayOf_alike hZ.alike Ar21.2.1) Ar21.2.2 hin21 (H21.at hin21 rfl) (g := (mkF m 25 #[.val (.ref o0), .val (.ref o1), .val (.int (0:Int32)), .val (.int (3:Int32)), .val (.int (0:Int32)), .val (.int (0:Int32))] [(.int (3:Int32)), (.ref o1), (.ref bn)])) rfl rfl (hb hby d10_25) _ ?_
    show Steps p.tables e below (T20.setTop (mkF m 26 #[.val (.ref o0), .val (.ref o1), .val (.int (0:Int32)), .val (.int (3:Int32)), .val (.int (0:Int32)), .val (.int (0:Int32))] [(.int (0:Int32)), (.ref bn)])) _
    refine X20.iaload hx (j := (0:Int32)) (v := (.int (0:Int32))) (by rw [e20]; exact Ar22.1) (State.isArrayOf_alike hZ.alike Ar22.2.1) Ar22.2.2 hin22 (H22.at hin22 rfl) (g := (mkF m 26 #[.val (.ref o0), .val (.ref o1), .val (.int (0:Int32)), .val (.int (3:Int32)), .val (.int (0:Int32)), .val (.int (0:Int32))] [(.int (0:Int32)), (.ref bn)])) rfl rfl (hb hby d10_26) _ ?_
    show Steps p.tables e below (T20.setTop (mkF m 27 #[.val (.ref o0), .val (.ref o1), .val (.int (0:Int32)), .val (.int (3:Int32)), .val (.int (0:Int32)), .val (.int (0:Int32))] [(.int (0:Int32))])) _
    refine XS.istore X20.here hx rfl (hb hby d10_27) rfl (l' := #[.val (.ref o0), .val (.ref o1), .val (.int (0:Int32)), .val (.int (3:Int32)), .val (.int (0:Int32)), .val (.int (0:Int32))]) rfl ?_
    refine XS.aloadN X20.here hx rfl (hb hby d10_29) rfl rfl ?_
    refine XS.aloadN X20.here hx rfl (hb hby d10_30) rfl rfl ?_
    refine XS.iloadN X20.here hx rfl (hb hby d10_31) rfl ?_
    show Steps p.tables e below (T20.setTop (mkF m 32 #[.val (.ref o0), .val (.ref o1), .val (.int (0:Int32)), .val (.int (3:Int32)), .val (.int (0:Int32)), .val (.int (0:Int32))] [(.int (3:Int32)), (.ref o1), (.ref o0)])) _
    refine X20.iaload hx (j := (3:Int32)) (v := (.int (0:Int32))) (by rw [e20]; exact Ar23.1) (State.isArrayOf_alike hZ.alike Ar23.2.1) Ar23.2.2 hin23 (H23.at hin23 rfl) (g := (mkF m 32 #[.val (.ref o0), .val (.ref o1), .val (.int (0:Int32)), .val (.int (3:Int32)), .val (.int (0:Int32)), .val (.int (0:Int32))] [(.int (3:Int32)), (.ref o1), (.ref o0)])) rfl rfl (hb hby d10_32) _ ?_
    show Steps p.tables e below (T20.setTop (mkF m 33 #[.val (.ref o0), .val (.ref o1), .val (.int (0:Int32)), .val (.int (3:Int32)), .val (.int (0:Int32)), .val (.int (0:Int32))] [(.int (0:Int32)), (.ref o0)])) _
    refine st24.trans ?_
    show Steps p.tables e below (T24.setTop (mkF m 36 #[.val (.ref o0), .val (.ref o1), .val (.int (0:Int32)), .val (.int (3:Int32)), .val (.int (0:Int32)), .val (.int (0:Int32))] [(.int (0:Int32))])) _
    refine XS.istore X24.here hx rfl (hb hby d10_36) rfl (l' := #[.val (.ref o0), .val (.ref o1), .val (.int (0:Int32)), .val (.int (3:Int32)), .val (.int (0:Int32)), .val (.int (0:Int32))]) rfl ?_
    refine XS.iload X24.here hx rfl (hb hby d10_38) rfl ?_
    refine XS.iload X24.here hx rfl (hb hby d10_40) rfl ?_
    refine XS.icmpYes X24.here hx rfl (pc0 := 42) (pc' := 64) rfl (hb hby d10_42) rfl (flt ((by decide) : ¬ ((0:Int32) < (0:Int32)))).2.1 (by decide) (by decide) ?_
    refine XS.iinc X24.here hx rfl (hb hby d10_64) rfl (l' := #[.val (.ref o0), .val (.ref o1), .val (.int (0:Int32)), .val (.int (4:Int32)), .val (.int (0:Int32)), .val (.int (0:Int32))]) rfl ?_
    refine XS.goto X24.here hx rfl (pc0 := 67) (pc' := 4) rfl (hb hby d10_67) (by decide) (by decide) ?_
    refine XS.iloadN X24.here hx rfl (hb hby d10_4) rfl ?_
    refine XS.aloadN X24.here hx rfl (hb hby d10_5) rfl rfl ?_
    show Steps p.tables e below (T24.setTop (mkF m 6 #[.val (.ref o0), .val (.ref o1), .val (.int (0:Int32)), .val (.int (4:Int32)), .val (.int (0:Int32)), .val (.int (0:Int32))] [(.ref o1), (.int (4:Int32))])) _
    refine X24.arraylength hx (by rw [e24q]; exact Ar25.1) (State.isArrayOf_alike hZ.alike Ar25.2.1) (g := (mkF m 6 #[.val (.ref o0), .val (.ref o1), .val (.int (0:Int32)), .val (.int (4:Int32)), .val (.int (0:Int32)), .val (.int (0:Int32))] [(.ref o1), (.int (4:Int32))])) rfl rfl (hb hby d10_6) _ ?_
    rw [len_of S25 N25']
    show Steps p.tables e below (T24.setTop (mkF m 7 #[.val (.ref o0), .val (.ref o1), .val (.int (0:Int32)), .val (.int (4:Int32)), .val (.int (0:Int32)), .val (.int (0:Int32))] [(.int (4:Int32)), (.int (4:Int32))])) _
    refine XS.icmpYes X24.here hx rfl (pc0 := 7) (pc' := 70) rfl (hb hby d10_7) rfl (flt ((by decide) : ¬ ((4:Int32) < (4:Int32)))).2.1 (by decide) (by decide) ?_
    refine XS.iloadN X24.here hx rfl (hb hby d10_70) rfl ?_
    show Steps p.tables e below (T24.setTop (mkF m 71 #[.val (.ref o0), .val (.ref o1), .val (.int (0:Int32)), .val (.int (4:Int32)), .val (.int (0:Int32)), .val (.int (0:Int32))] [(.int (0:Int32))])) _
    exact retI X24 hx Bd.returns (hb hby d10_71) hr
  · show rm10Q Z o0 o1 (4:Int32) h0 n0 _ T24.heap _
    rw [e24q]
    exact ⟨rfl, N24, rfl⟩
theorem rm10 (l : Launch) (Z : State) (aw : Array Value) (hw : ∀ d ∈ tables_1, d.before aw Z = true) (ws : List Jvm.Cond) (o0 : Nat) (o1 : Nat) (bn : Nat) (kn k1 : ClassId) (LL : Int32) (h0 : Heap) (n0 : Nat) (Z0 : n0 ≤ h0.size) (E_o0 : Exa Z h0 o0 "com/example/tavola/tavola/profile/CsvReader") (F_ends : Fld Z h0 o0 "com/example/tavola/tavola/profile/CsvReader" "ends" "[I" (.ref bn)) (V_bn : Arv Z h0 bn kn .int (16:Int32) [] (.int (0:Int32))) (V_o1 : Arv Z h0 o1 k1 .int LL [] (.int (0:Int32))) (hL : LL = (1:Int32) ∨ LL = (2:Int32) ∨ LL = (3:Int32) ∨ LL = (4:Int32)) :
    MetFree l (⟨"com/example/tavola/tavola/profile/CsvReader", "keyHash", "([I)I"⟩ : MethodName) (head1 (Jvm.Cond.code (⟨"com/example/tavola/tavola/profile/CsvReader", "keyHash", "([I)I"⟩ : MethodName) prog_81_method_11_code 6 (some .int) :: ws) ({ frames := 1, cells := 0, slots := 0, locals := 13 } : Room)) (fun a U => a = #[(.ref o0), (.ref o1)] ∧ Z.Warmed39 U.vm ∧ U.heap = h0) (fun _ _ _ _ _ => True) (fun _ U o U' => ∃ v L, o = .returned v ∧ rm10Q Z o0 o1 LL h0 n0 v U'.heap L ∧ FrameEnd U o U' L ({ frames := 1, cells := 0, slots := 0, locals := 13 } : Room).cells ({ frames := 1, cells := 0, slots := 0, locals := 13 } : Room).slots) := by
  rcases hL with rfl | rfl | rfl | rfl
  · exact rm10_1 l Z aw hw ws o0 o1 bn kn k1 h0 n0 Z0 E_o0 F_ends V_bn V_o1
  · exact rm10_2 l Z aw hw ws o0 o1 bn kn k1 h0 n0 Z0 E_o0 F_ends V_bn V_o1
  · exact rm10_3 l Z aw hw ws o0 o1 bn kn k1 h0 n0 Z0 E_o0 F_ends V_bn V_o1
  · exact rm10_4 l Z aw hw ws o0 o1 bn kn k1 h0 n0 Z0 E_o0 F_ends V_bn V_o1
theorem d9_0 : decode prog_81_method_14_code 0 = .ok (.iload_n 3, 1) := by decide +kernel
theorem d9_1 : decode prog_81_method_14_code 1 = .ok (.istore 4, 2) := by decide +kernel
theorem d9_3 : decode prog_81_method_14_code 3 = .ok (.iconst 0, 1) := by decide +kernel
theorem d9_4 : decode prog_81_method_14_code 4 = .ok (.istore 5, 2) := by decide +kernel
theorem d9_6 : decode prog_81_method_14_code 6 = .ok (.iload 5, 2) := by decide +kernel
theorem d9_8 : decode prog_81_method_14_code 8 = .ok (.aload_n 1, 1) := by decide +kernel
theorem d9_9 : decode prog_81_method_14_code 9 = .ok (.arraylength, 1) := by decide +kernel
theorem d9_10 : decode prog_81_method_14_code 10 = .ok (.if_icmp .ge 69, 3) := by decide +kernel
theorem d9_13 : decode prog_81_method_14_code 13 = .ok (.iload 5, 2) := by decide +kernel
theorem d9_15 : decode prog_81_method_14_code 15 = .ok (.ifCond .le 11, 3) := by decide +kernel
theorem d9_26 : decode prog_81_method_14_code 26 = .ok (.aload_n 0, 1) := by decide +kernel
theorem d9_27 : decode prog_81_method_14_code 27 = .ok (.getfield 21, 3) := by decide +kernel
theorem d9_30 : decode prog_81_method_14_code 30 = .ok (.aload_n 1, 1) := by decide +kernel
theorem d9_31 : decode prog_81_method_14_code 31 = .ok (.iload 5, 2) := by decide +kernel
theorem d9_33 : decode prog_81_method_14_code 33 = .ok (.iaload, 1) := by decide +kernel
theorem d9_34 : decode prog_81_method_14_code 34 = .ok (.iaload, 1) := by decide +kernel
theorem d9_35 : decode prog_81_method_14_code 35 = .ok (.aload_n 0, 1) := by decide +kernel
theorem d9_36 : decode prog_81_method_14_code 36 = .ok (.aload_n 1, 1) := by decide +kernel
theorem d9_37 : decode prog_81_method_14_code 37 = .ok (.iload 5, 2) := by decide +kernel
theorem d9_39 : decode prog_81_method_14_code 39 = .ok (.iaload, 1) := by decide +kernel
theorem d9_40 : decode prog_81_method_14_code 40 = .ok (.invokevirtual 64, 3) := by decide +kernel
theorem d9_43 : decode prog_81_method_14_code 43 = .ok (.isub, 1) := by decide +kernel
theorem d9_44 : decode prog_81_method_14_code 44 = .ok (.istore 6, 2) := by decide +kernel
theorem d9_46 : decode prog_81_method_14_code 46 = .ok (.aload_n 0, 1) := by decide +kernel
theorem d9_47 : decode prog_81_method_14_code 47 = .ok (.getfield 18, 3) := by decide +kernel
theorem d9_50 : decode prog_81_method_14_code 50 = .ok (.aload_n 0, 1) := by decide +kernel
theorem d9_51 : decode prog_81_method_14_code 51 = .ok (.aload_n 1, 1) := by decide +kernel
theorem d9_52 : decode prog_81_method_14_code 52 = .ok (.iload 5, 2) := by decide +kernel
theorem d9_54 : decode prog_81_method_14_code 54 = .ok (.iaload, 1) := by decide +kernel
theorem d9_55 : decode prog_81_method_14_code 55 = .ok (.invokevirtual 64, 3) := by decide +kernel
theorem d9_58 : decode prog_81_method_14_code 58 = .ok (.aload_n 2, 1) := by decide +kernel
theorem d9_59 : decode prog_81_method_14_code 59 = .ok (.iload 4, 2) := by decide +kernel
theorem d9_61 : decode prog_81_method_14_code 61 = .ok (.iload 6, 2) := by decide +kernel
theorem d9_63 : decode prog_81_method_14_code 63 = .ok (.invokestatic 89, 3) := by decide +kernel
theorem d9_66 : decode prog_81_method_14_code 66 = .ok (.iload 4, 2) := by decide +kernel
theorem d9_68 : decode prog_81_method_14_code 68 = .ok (.iload 6, 2) := by decide +kernel
theorem d9_70 : decode prog_81_method_14_code 70 = .ok (.iadd, 1) := by decide +kernel
theorem d9_71 : decode prog_81_method_14_code 71 = .ok (.istore 4, 2) := by decide +kernel
theorem d9_73 : decode prog_81_method_14_code 73 = .ok (.iinc 5 1, 3) := by decide +kernel
theorem d9_76 : decode prog_81_method_14_code 76 = .ok (.goto (-70), 3) := by decide +kernel
theorem d9_79 : decode prog_81_method_14_code 79 = .ok (.return_, 1) := by decide +kernel
theorem pn_9 : plainName "com/example/tavola/tavola/profile/CsvReader" = true := by first | (simp [plainName, overriddenIn]; done) | decide +kernel
theorem pd_rm9_1_0 : parseMethodDescriptor "(I)I" = some ⟨[.int], some .int⟩ := by decide +kernel
theorem ef_rm9_1 (m : MethodId) (o0 : Nat) (o1 : Nat) (o2 : Nat) (p3 : Int32) : entryFrame m #[(.ref o0), (.ref o1), (.ref o2), (.int p3)] 7 = mkF m 0 #[.val (.ref o0), .val (.ref o1), .val (.ref o2), .val (.int p3), .unset, .unset, .unset] [] := by first | (simp [entryFrame, mkF, argsToLocals, Value.category]; done) | rfl
def rm9Q (Z : State) (o0 o1 o2 : Nat) (p3 : Int32) (k2 : ClassId) (LL : Int32) (h0 : Heap) (n0 : Nat) (v : Option Value) (h : Heap) (L : List Loc) : Prop := v = none ∧ Fr n0 L ∧ Keep h0 h [o2] ∧ own_Arf Z h o2 k2 .byte (65536:Int32) (.int (0:Int32))
set_option maxRecDepth 65536 in
set_option maxHeartbeats 40000000 in
theorem rm9_1 (l : Launch) (Z : State) (aw : Array Value) (hw : ∀ d ∈ tables_1, d.before aw Z = true) (ws : List Jvm.Cond) (o0 : Nat) (o1 : Nat) (o2 : Nat) (p3 : Int32) (bn br : Nat) (kn kr k1 k2 : ClassId) (h0 : Heap) (n0 : Nat) (Z0 : n0 ≤ h0.size) (E_o0 : Exa Z h0 o0 "com/example/tavola/tavola/profile/CsvReader") (F_ends : Fld Z h0 o0 "com/example/tavola/tavola/profile/CsvReader" "ends" "[I" (.ref bn)) (V_bn : Arv Z h0 bn kn .int (16:Int32) [] (.int (0:Int32))) (F_rec : Fld Z h0 o0 "com/example/tavola/tavola/profile/CsvReader" "record" "[B" (.ref br)) (A_br : own_Arf Z h0 br kr .byte (256:Int32) (.int (0:Int32))) (V_o1 : Arv Z h0 o1 k1 .int (1:Int32) [] (.int (0:Int32))) (A_o2 : own_Arf Z h0 o2 k2 .byte (65536:Int32) (.int (0:Int32))) (g_o2 : n0 ≤ o2) (hp0 : ¬ p3 < (0:Int32)) (hp6 : ¬ (6:Int32) < p3) (lt1 : o1 < o2) (lt2 : o0 < o2) (lt3 : bn < o2) (lt4 : br < o2) :
    MetFree l (⟨"com/example/tavola/tavola/profile/CsvReader", "copyKey", "([I[BI)V"⟩ : MethodName) (head1 (Jvm.Cond.code (⟨"com/example/tavola/tavola/profile/CsvReader", "copyKey", "([I[BI)V"⟩ : MethodName) prog_81_method_14_code 7 none :: ws) ({ frames := 1, cells := 0, slots := 0, locals := 60 } : Room)) (fun a U => a = #[(.ref o0), (.ref o1), (.ref o2), (.int p3)] ∧ Z.Warmed39 U.vm ∧ U.heap = h0) (fun _ _ _ _ _ => True) (fun _ U o U' => ∃ v L, o = .returned v ∧ rm9Q Z o0 o1 o2 p3 k2 (1:Int32) h0 n0 v U'.heap L ∧ FrameEnd U o U' L ({ frames := 1, cells := 0, slots := 0, locals := 60 } : Room).cells ({ frames := 1, cells := 0, slots := 0, locals := 60 } : Room).slots) := by
  refine MetFree.of_bodySF (plainFor_of_name pn_9) hisR ?_
  intro p e s m args below meth c s₁ Bd hml0 hP hK
  obtain ⟨rfl, hZ, hh⟩ := hP
  have hx := Bd.exec
  have hby := Bd.bytes
  have hml : c.maxLocals = 7 := hml0
  have hown : s.vm.findClass "com/example/tavola/tavola/profile/CsvReader" = some m.cls := findClass_of_methodNamed Bd.named
  have hnm := (name_of_methodNamed Bd.named Bd.method).1
  have X0 : Stand p l e ({ frames := 1, cells := 0, slots := 0, locals := 60 } : Room) s m #[(.ref o0), (.ref o1), (.ref o2), (.int p3)] below meth c s₁ [] 0 0 := Stand.of_body Bd
  have e0 : s₁.heap = h0 := by rw [← hh, Bd.state]; rfl
  have N0 := Fr.nil n0
  have pre0 : ∀ t, Steps p.tables e below (s₁.setTop (mkF m 0 #[.val (.ref o0), .val (.ref o1), .val (.ref o2), .val (.int p3), .unset, .unset, .unset] [])) t → Steps p.tables e below (s₁.setTop (entryFrame m #[(.ref o0), (.ref o1), (.ref o2), (.int p3)] 7)) t := fun t k => castTop (ef_rm9_1 m o0 o1 o2 p3) k
  obtain ⟨cl1, Ar1, -, S1, N1', -, -⟩ := id V_o1
  obtain ⟨T2, X2, e2, st2⟩ := getF X0 hx hZ hown (host := "") (Or.inl (hw _ (oG (i := 19) rfl))) Via.refl e0 F_ends (g := (mkF m 27 #[.val (.ref o0), .val (.ref o1), .val (.ref o2), .val (.int p3), .val (.int p3), .val (.int (0:Int32)), .unset] [(.ref o0)])) rfl rfl (hb hby d9_27)
  obtain ⟨cl3, Ar3, q3, S3, N3', H3, G3⟩ := id V_o1
  have hin3 : ¬ ((0:Int32) < 0 ∨ cl3.slots.size ≤ ((0:Int32)).toNatClampNeg) := inb_of S3 ⟨by decide, by decide⟩
  obtain ⟨cl4, Ar4, q4, S4, N4', H4, G4⟩ := id V_bn
  have hin4 : ¬ ((0:Int32) < 0 ∨ cl4.slots.size ≤ ((0:Int32)).toNatClampNeg) := inb_of S4 ⟨by decide, by decide⟩
  obtain ⟨cl5, Ar5, q5, S5, N5', H5, G5⟩ := id V_o1
  have hin5 : ¬ ((0:Int32) < 0 ∨ cl5.slots.size ≤ ((0:Int32)).toNatClampNeg) := inb_of S5 ⟨by decide, by decide⟩
  obtain ⟨cq6, q6, q6'⟩ := (E_o0).cell
  obtain ⟨_, _, ⟨T6, L6, k6, n6⟩, -, X6, ⟨Lc6, hQ6, l6, y6, z6⟩, st6⟩ := X2.privateBack hx (y := (⟨"com/example/tavola/tavola/profile/CsvReader", "start", "(I)I"⟩ : MethodName)) hown (mvT hZ (hw _ (oG (i := 70) rfl))) (mvT hZ (hw _ (oG (i := 71) rfl))) (own_selP hZ (hw _ (oG (i := 3) rfl)) (hw _ (oG (i := 71) rfl)) (hw _ (oG (i := 72) rfl)) (by decide)) (Cond.privateMethod_at (mvP hZ (hw _ (oG (i := 72) rfl)) (args := #[]))) (mvT hZ (hw _ (oG (i := 73) rfl))) (by decide) (backOf (W := 1) (rm8 l Z aw hw [] o0 h0 n0 Z0) hZ (hw _ (oG (i := 73) rfl)) (hw _ (oG (i := 4) rfl)) (by decide) (by decide)) (g := (mkF m 40 #[.val (.ref o0), .val (.ref o1), .val (.ref o2), .val (.int p3), .val (.int p3), .val (.int (0:Int32)), .unset] [(.int (0:Int32)), (.ref o0), (.int (0:Int32))])) rfl (by rw [hml]; rfl) (Steps.refl _) (a := o0) (by rw [e2]; exact q6) q6' (argsL := [(.int (0:Int32))]) (rest := [(.int (0:Int32))]) (lenOf pd_rm9_1_0 rfl) rfl (by show 2 * 0 + _ ≤ _; exact Nat.le_of_eq rfl) (hb hby d9_40) (fun _ _ => ⟨rfl, e2, (by decide : 0 + 0 ≤ _), (by decide : 0 + 0 ≤ _)⟩)
  dsimp only [Pt.U, Pt.locs, Pt.cells, Pt.slots] at X6 l6 y6 z6 st6 hQ6
  subst l6 y6 z6
  obtain ⟨rfl, N6q, e6q⟩ := hQ6
  have N6 := Fr.app N0 N6q
  obtain ⟨T7, X7, e7, st7⟩ := getF X6 hx hZ hown (host := "") (Or.inl (hw _ (oG (i := 17) rfl))) Via.refl e6q F_rec (g := (mkF m 47 #[.val (.ref o0), .val (.ref o1), .val (.ref o2), .val (.int p3), .val (.int p3), .val (.int (0:Int32)), .val (.int (0:Int32))] [(.ref o0)])) rfl rfl (hb hby d9_47)
  obtain ⟨cl8, Ar8, q8, S8, N8', H8, G8⟩ := id V_o1
  have hin8 : ¬ ((0:Int32) < 0 ∨ cl8.slots.size ≤ ((0:Int32)).toNatClampNeg) := inb_of S8 ⟨by decide, by decide⟩
  obtain ⟨cq9, q9, q9'⟩ := (E_o0).cell
  obtain ⟨_, _, ⟨T9, L9, k9, n9⟩, -, X9, ⟨Lc9, hQ9, l9, y9, z9⟩, st9⟩ := X7.privateBack hx (y := (⟨"com/example/tavola/tavola/profile/CsvReader", "start", "(I)I"⟩ : MethodName)) hown (mvT hZ (hw _ (oG (i := 70) rfl))) (mvT hZ (hw _ (oG (i := 71) rfl))) (own_selP hZ (hw _ (oG (i := 3) rfl)) (hw _ (oG (i := 71) rfl)) (hw _ (oG (i := 72) rfl)) (by decide)) (Cond.privateMethod_at (mvP hZ (hw _ (oG (i := 72) rfl)) (args := #[]))) (mvT hZ (hw _ (oG (i := 73) rfl))) (by decide) (backOf (W := 1) (rm8 l Z aw hw [] o0 h0 n0 Z0) hZ (hw _ (oG (i := 73) rfl)) (hw _ (oG (i := 4) rfl)) (by decide) (by decide)) (g := (mkF m 55 #[.val (.ref o0), .val (.ref o1), .val (.ref o2), .val (.int p3), .val (.int p3), .val (.int (0:Int32)), .val (.int (0:Int32))] [(.int (0:Int32)), (.ref o0), (.ref br)])) rfl (by rw [hml]; rfl) (Steps.refl _) (a := o0) (by rw [e7]; exact q9) q9' (argsL := [(.int (0:Int32))]) (rest := [(.ref br)]) (lenOf pd_rm9_1_0 rfl) rfl (by show 2 * 0 + _ ≤ _; exact Nat.le_of_eq rfl) (hb hby d9_55) (fun _ _ => ⟨rfl, e7, (by decide : 0 + 0 ≤ _), (by decide : 0 + 0 ≤ _)⟩)
  dsimp only [Pt.U, Pt.locs, Pt.cells, Pt.slots] at X9 l9 y9 z9 st9 hQ9
  subst l9 y9 z9
  obtain ⟨rfl, N9q, e9q⟩ := hQ9
  have N9 := Fr.app N6 N9q
  obtain ⟨vr10, hlr10, Vr10⟩ := id A_br
  obtain ⟨vk10, hlk10, Vk10⟩ := id A_o2
  have ps_11 : ¬ p3 < (0:Int32) ∧ ¬ (6:Int32) < p3 := ⟨hp0, hp6⟩
  have hps10 := own_nat ps_11.1 (fun z => ps_11.2 (own_ltb z (by decide)))
  obtain ⟨T10, h10, L10, X10, e10, N10, K10, Vc10, st10⟩ := cpA X9 hx hZ hown (hw _ (oG (i := 81) rfl)) (hw _ (oG (i := 84) rfl)) (hw _ (oG (i := 82) rfl)) (hw _ (oG (i := 83) rfl)) e9q (us := []) Vr10 Vk10 (Or.inl ⟨rfl, rfl⟩) (by decide) ps_11.1 (by decide) (by decide) (by show _ + 0 ≤ _; exact hps10) rfl (by show _ + 0 ≤ _; exact Nat.le_trans hps10 hlk10) N9 g_o2 (g := (mkF m 63 #[.val (.ref o0), .val (.ref o1), .val (.ref o2), .val (.int p3), .val (.int p3), .val (.int (0:Int32)), .val (.int (0:Int32))] [(.int (0:Int32)), (.int p3), (.ref o2), (.int (0:Int32)), (.ref br)])) rfl (by rw [hml]; rfl) (rest := []) rfl (hb hby d9_63) (by decide) (W := 0) (by show 2 * 0 + _ ≤ _; exact Nat.le_of_eq rfl) (by decide)
  have Ac10 : own_Arf Z h10 o2 k2 .byte (65536:Int32) (.int (0:Int32)) := ⟨_, own_cplen hlk10 hps10 rfl, Vc10⟩
  have ne_12 : o1 ≠ o2 := by omega
  have Va_13 : Arv Z h10 o1 k1 .int (1:Int32) [] (.int (0:Int32)) := (V_o1.keep K10 (ninS ne_12 nin0))
  obtain ⟨cl14, Ar14, -, S14, N14', -, -⟩ := id Va_13
  have Kk_15 : Keep h0 h10 [o2] := ((Keep.refl h0 [o2]).trans K10 (allS (Or.inl (oG (i := 0) rfl)) all0))
  obtain ⟨fs, hr, hrun, hended, hW, hsame⟩ := X10.leave (v := none) (fun _ => rfl)
  refine ⟨_, _, pre0 _ ?_, hrun, hended, _, _, rfl, ?_, ⟨_, rfl⟩, hW, hsame.mono (by decide) (by decide)⟩
  · show Steps p.tables e below (s₁.setTop (mkF m 0 #[.val (.ref o0), .val (.ref o1), .val (.ref o2), .val (.int p3), .unset, .unset, .unset] [])) _
    refine XS.iloadN X0.here hx rfl (hb hby d9_0) rfl ?_
    refine XS.istore X0.here hx rfl (hb hby d9_1) rfl (l' := #[.val (.ref o0), .val (.ref o1), .val (.ref o2), .val (.int p3), .val (.int p3), .unset, .unset]) rfl ?_
    refine XS.iconst X0.here hx rfl (hb hby d9_3) ?_
    refine XS.istore X0.here hx rfl (hb hby d9_4) rfl (l' := #[.val (.ref o0), .val (.ref o1), .val (.ref o2), .val (.int p3), .val (.int p3), .val (.int (0:Int32)), .unset]) rfl ?_
    refine XS.iload X0.here hx rfl (hb hby d9_6) rfl ?_
    refine XS.aloadN X0.here hx rfl (hb hby d9_8) rfl rfl ?_
    show Steps p.tables e below (s₁.setTop (mkF m 9 #[.val (.ref o0), .val (.ref o1), .val (.ref o2), .val (.int p3), .val (.int p3), .val (.int (0:Int32)), .unset] [(.ref o1), (.int (0:Int32))])) _
    refine X0.arraylength hx (by rw [e0]; exact Ar1.1) (State.isArrayOf_alike hZ.alike Ar1.2.1) (g := (mkF m 9 #[.val (.ref o0), .val (.ref o1), .val (.ref o2), .val (.int p3), .val (.int p3), .val (.int (0:Int32)), .unset] [(.ref o1), (.int (0:Int32))])) rfl rfl (hb hby d9_9) _ ?_
    rw [len_of S1 N1']
    show Steps p.tables e below (s₁.setTop (mkF m 10 #[.val (.ref o0), .val (.ref o1), .val (.ref o2), .val (.int p3), .val (.int p3), .val (.int (0:Int32)), .unset] [(.int (1:Int32)), (.int (0:Int32))])) _
    refine XS.icmpNo X0.here hx rfl (hb hby d9_10) rfl (tlt ((by decide) : (0:Int32) < (1:Int32))).2.1 ?_
    refine XS.iload X0.here hx rfl (hb hby d9_13) rfl ?_
    refine XS.ifYes X0.here hx rfl (pc0 := 15) (pc' := 26) rfl (hb hby d9_15) rfl ((if0 _ _).trans (flt ((by decide) : ¬ ((0:Int32) < (0:Int32)))).2.2.2) (by decide) (by decide) ?_
    refine XS.aloadN X0.here hx rfl (hb hby d9_26) rfl rfl ?_
    show Steps p.tables e below (s₁.setTop (mkF m 27 #[.val (.ref o0), .val (.ref o1), .val (.ref o2), .val (.int p3), .val (.int p3), .val (.int (0:Int32)), .unset] [(.ref o0)])) _
    refine st2 _ ?_
    show Steps p.tables e below (T2.setTop (mkF m 30 #[.val (.ref o0), .val (.ref o1), .val (.ref o2), .val (.int p3), .val (.int p3), .val (.int (0:Int32)), .unset] [(.ref bn)])) _
    refine XS.aloadN X2.here hx rfl (hb hby d9_30) rfl rfl ?_
    refine XS.iload X2.here hx rfl (hb hby d9_31) rfl ?_
    show Steps p.tables e below (T2.setTop (mkF m 33 #[.val (.ref o0), .val (.ref o1), .val (.ref o2), .val (.int p3), .val (.int p3), .val (.int (0:Int32)), .unset] [(.int (0:Int32)), (.ref o1), (.ref bn)])) _
    refine X2.iaload hx (j := (0:Int32)) (v := (.int (0:Int32))) (by rw [e2]; exact Ar3.1) (State.isArrayOf_alike hZ.alike Ar3.2.1) Ar3.2.2 hin3 (H3.at hin3 rfl) (g := (mkF m 33 #[.val (.ref o0), .val (.ref o1), .val (.ref o2), .val (.int p3), .val (.int p3), .val (.int (0:Int32)), .unset] [(.int (0:Int32)), (.ref o1), (.ref bn)])) rfl rfl (hb hby d9_33) _ ?_
    show Steps p.tables e below (T2.setTop (mkF m 34 #[.val (.ref o0), .val (.ref o1), .val (.ref o2), .val (.int p3), .val (.int p3), .val (.int (0:Int32)), .unset] [(.int (0:Int32)), (.ref bn)])) _
    refine X2.iaload hx (j := (0:Int32)) (v := (.int (0:Int32))) (by rw [e2]; exact Ar4.1) (State.isArrayOf_alike hZ.alike Ar4.2.1) Ar4.2.2 hin4 (H4.at hin4 rfl) (g := (mkF m 34 #[.val (.ref o0), .val (.ref o1), .val (.ref o2), .val (.int p3), .val (.int p3), .val (.int (0:Int32)), .unset] [(.int (0:Int32)), (.ref bn)])) rfl rfl (hb hby d9_34) _ ?_
    show Steps p.tables e below (T2.setTop (mkF m 35 #[.val (.ref o0), .val (.ref o1), .val (.ref o2), .val (.int p3), .val (.int p3), .val (.int (0:Int32)), .unset] [(.int (0:Int32))])) _
    refine XS.aloadN X2.here hx rfl (hb hby d9_35) rfl rfl ?_
    refine XS.aloadN X2.here hx rfl (hb hby d9_36) rfl rfl ?_
    refine XS.iload X2.here hx rfl (hb hby d9_37) rfl ?_
    show Steps p.tables e below (T2.setTop (mkF m 39 #[.val (.ref o0), .val (.ref o1), .val (.ref o2), .val (.int p3), .val (.int p3), .val (.int (0:Int32)), .unset] [(.int (0:Int32)), (.ref o1), (.ref o0), (.int (0:Int32))])) _
    refine X2.iaload hx (j := (0:Int32)) (v := (.int (0:Int32))) (by rw [e2]; exact Ar5.1) (State.isArrayOf_alike hZ.alike Ar5.2.1) Ar5.2.2 hin5 (H5.at hin5 rfl) (g := (mkF m 39 #[.val (.ref o0), .val (.ref o1), .val (.ref o2), .val (.int p3), .val (.int p3), .val (.int (0:Int32)), .unset] [(.int (0:Int32)), (.ref o1), (.ref o0), (.int (0:Int32))])) rfl rfl (hb hby d9_39) _ ?_
    show Steps p.tables e below (T2.setTop (mkF m 40 #[.val (.ref o0), .val (.ref o1), .val (.ref o2), .val (.int p3), .val (.int p3), .val (.int (0:Int32)), .unset] [(.int (0:Int32)), (.ref o0), (.int (0:Int32))])) _
    refine st6.trans ?_
    show Steps p.tables e below (T6.setTop (mkF m 43 #[.val (.ref o0), .val (.ref o1), .val (.ref o2), .val (.int p3), .val (.int p3), .val (.int (0:Int32)), .unset] [(.int (0:Int32)), (.int (0:Int32))])) _
    refine XS.isub X6.here hx rfl (hb hby d9_43) rfl ?_
    rw [show ((0:Int32) - (0:Int32)) = (0:Int32) from by decide]
    show Steps p.tables e below (T6.setTop (mkF m 44 #[.val (.ref o0), .val (.ref o1), .val (.ref o2), .val (.int p3), .val (.int p3), .val (.int (0:Int32)), .unset] [(.int (0:Int32))])) _
    refine XS.istore X6.here hx rfl (hb hby d9_44) rfl (l' := #[.val (.ref o0), .val (.ref o1), .val (.ref o2), .val (.int p3), .val (.int p3), .val (.int (0:Int32)), .val (.int (0:Int32))]) rfl ?_
    refine XS.aloadN X6.here hx rfl (hb hby d9_46) rfl rfl ?_
    show Steps p.tables e below (T6.setTop (mkF m 47 #[.val (.ref o0), .val (.ref o1), .val (.ref o2), .val (.int p3), .val (.int p3), .val (.int (0:Int32)), .val (.int (0:Int32))] [(.ref o0)])) _
    refine st7 _ ?_
    show Steps p.tables e below (T7.setTop (mkF m 50 #[.val (.ref o0), .val (.ref o1), .val (.ref o2), .val (.int p3), .val (.int p3), .val (.int (0:Int32)), .val (.int (0:Int32))] [(.ref br)])) _
    refine XS.aloadN X7.here hx rfl (hb hby d9_50) rfl rfl ?_
    refine XS.aloadN X7.here hx rfl (hb hby d9_51) rfl rfl ?_
    refine XS.iload X7.here hx rfl (hb hby d9_52) rfl ?_
    show Steps p.tables e below (T7.setTop (mkF m 54 #[.val (.ref o0), .val (.ref o1), .val (.ref o2), .val (.int p3), .val (.int p3), .val (.int (0:Int32)), .val (.int (0:Int32))] [(.int (0:Int32)), (.ref o1), (.ref o0), (.ref br)])) _
    refine X7.iaload hx (j := (0:Int32)) (v := (.int (0:Int32))) (by rw [e7]; exact Ar8.1) (State.isArrayOf_alike hZ.alike Ar8.2.1) Ar8.2.2 hin8 (H8.at hin8 rfl) (g := (mkF m 54 #[.val (.ref o0), .val (.ref o1), .val (.ref o2), .val (.int p3), .val (.int p3), .val (.int (0:Int32)), .val (.int (0:Int32))] [(.int (0:Int32)), (.ref o1), (.ref o0), (.ref br)])) rfl rfl (hb hby d9_54) _ ?_
    show Steps p.tables e below (T7.setTop (mkF m 55 #[.val (.ref o0), .val (.ref o1), .val (.ref o2), .val (.int p3), .val (.int p3), .val (.int (0:Int32)), .val (.int (0:Int32))] [(.int (0:Int32)), (.ref o0), (.ref br)])) _
    refine st9.trans ?_
    show Steps p.tables e below (T9.setTop (mkF m 58 #[.val (.ref o0), .val (.ref o1), .val (.ref o2), .val (.int p3), .val (.int p3), .val (.int (0:Int32)), .val (.int (0:Int32))] [(.int (0:Int32)), (.ref br)])) _
    refine XS.aloadN X9.here hx rfl (hb hby d9_58) rfl rfl ?_
    refine XS.iload X9.here hx rfl (hb hby d9_59) rfl ?_
    refine XS.iload X9.here hx rfl (hb hby d9_61) rfl ?_
    show Steps p.tables e below (T9.setTop (mkF m 63 #[.val (.ref o0), .val (.ref o1), .val (.ref o2), .val (.int p3), .val (.int p3), .val (.int (0:Int32)), .val (.int (0:Int32))] [(.int (0:Int32)), (.int p3), (.ref o2), (.int (0:Int32)), (.ref br)])) _
    refine st10 _ ?_
    show Steps p.tables e below (T10.setTop (mkF m 66 #[.val (.ref o0), .val (.ref o1), .val (.ref o2), .val (.int p3), .val (.int p3), .val (.int (0:Int32)), .val (.int (0:Int32))] [])) _
    refine XS.iload X10.here hx rfl (hb hby d9_66) rfl ?_
    refine XS.iload X10.here hx rfl (hb hby d9_68) rfl ?_
    show Steps p.tables e below (T10.setTop (mkF m 70 #[.val (.ref o0), .val (.ref o1), .val (.ref o2), .val (.int p3), .val (.int p3), .val (.int (0:Int32)), .val (.int (0:Int32))] [(.int (0:Int32)), (.int p3)])) _
    refine XS.iadd X10.here hx rfl (hb hby d9_70) rfl ?_
    rw [Int32.add_zero]
    show Steps p.tables e below (T10.setTop (mkF m 71 #[.val (.ref o0), .val (.ref o1), .val (.ref o2), .val (.int p3), .val (.int p3), .val (.int (0:Int32)), .val (.int (0:Int32))] [(.int p3)])) _
    refine XS.istore X10.here hx rfl (hb hby d9_71) rfl (l' := #[.val (.ref o0), .val (.ref o1), .val (.ref o2), .val (.int p3), .val (.int p3), .val (.int (0:Int32)), .val (.int (0:Int32))]) rfl ?_
    refine XS.iinc X10.here hx rfl (hb hby d9_73) rfl (l' := #[.val (.ref o0), .val (.ref o1), .val (.ref o2), .val (.int p3), .val (.int p3), .val (.int (1:Int32)), .val (.int (0:Int32))]) rfl ?_
    refine XS.goto X10.here hx rfl (pc0 := 76) (pc' := 6) rfl (hb hby d9_76) (by decide) (by decide) ?_
    refine XS.iload X10.here hx rfl (hb hby d9_6) rfl ?_
    refine XS.aloadN X10.here hx rfl (hb hby d9_8) rfl rfl ?_
    show Steps p.tables e below (T10.setTop (mkF m 9 #[.val (.ref o0), .val (.ref o1), .val (.ref o2), .val (.int p3), .val (.int p3), .val (.int (1:Int32)), .val (.int (0:Int32))] [(.ref o1), (.int (1:Int32))])) _
    refine X10.arraylength hx (by rw [e10]; exact Ar14.1) (State.isArrayOf_alike hZ.alike Ar14.2.1) (g := (mkF m 9 #[.val (.ref o0), .val (.ref o1), .val (.ref o2), .val (.int p3), .val (.int p3), .val (.int (1:Int32)), .val (.int (0:Int32))] [(.ref o1), (.int (1:Int32))])) rfl rfl (hb hby d9_9) _ ?_
    rw [len_of S14 N14']
    show Steps p.tables e below (T10.setTop (mkF m 10 #[.val (.ref o0), .val (.ref o1), .val (.ref o2), .val (.int p3), .val (.int p3), .val (.int (1:Int32)), .val (.int (0:Int32))] [(.int (1:Int32)), (.int (1:Int32))])) _
    refine XS.icmpYes X10.here hx rfl (pc0 := 10) (pc' := 79) rfl (hb hby d9_10) rfl (flt ((by decide) : ¬ ((1:Int32) < (1:Int32)))).2.1 (by decide) (by decide) ?_
    show Steps p.tables e below (T10.setTop (mkF m 79 #[.val (.ref o0), .val (.ref o1), .val (.ref o2), .val (.int p3), .val (.int p3), .val (.int (1:Int32)), .val (.int (0:Int32))] [])) _
    exact X10.returnOut hx Bd.returns (hb hby d9_79) hr
  · show rm9Q Z o0 o1 o2 p3 k2 (1:Int32) h0 n0 _ T10.heap _
    rw [e10]
    exact ⟨rfl, N10, Kk_15, Ac10⟩
theorem d9_18 : decode prog_81_method_14_code 18 = .ok (.aload_n 2, 1) := by decide +kernel
theorem d9_19 : decode prog_81_method_14_code 19 = .ok (.iload 4, 2) := by decide +kernel
theorem d9_21 : decode prog_81_method_14_code 21 = .ok (.iinc 4 1, 3) := by decide +kernel
theorem d9_24 : decode prog_81_method_14_code 24 = .ok (.iconst 0, 1) := by decide +kernel
theorem d9_25 : decode prog_81_method_14_code 25 = .ok (.bastore, 1) := by decide +kernel
theorem pd_rm9_2_0 : parseMethodDescriptor "(I)I" = some ⟨[.int], some .int⟩ := by decide +kernel
theorem ef_rm9_2 (m : MethodId) (o0 : Nat) (o1 : Nat) (o2 : Nat) (p3 : Int32) : entryFrame m #[(.ref o0), (.ref o1), (.ref o2), (.int p3)] 7 = mkF m 0 #[.val (.ref o0), .val (.ref o1), .val (.ref o2), .val (.int p3), .unset, .unset, .unset] [] := by first | (simp [entryFrame, mkF, argsToLocals, Value.category]; done) | rfl
set_option maxRecDepth 65536 in
set_option maxHeartbeats 40000000 in
theorem rm9_2 (l : Launch) (Z : State) (aw : Array Value) (hw : ∀ d ∈ tables_1, d.before aw Z = true) (ws : List Jvm.Cond) (o0 : Nat) (o1 : Nat) (o2 : Nat) (p3 : Int32) (bn br : Nat) (kn kr k1 k2 : ClassId) (h0 : Heap) (n0 : Nat) (Z0 : n0 ≤ h0.size) (E_o0 : Exa Z h0 o0 "com/example/tavola/tavola/profile/CsvReader") (F_ends : Fld Z h0 o0 "com/example/tavola/tavola/profile/CsvReader" "ends" "[I" (.ref bn)) (V_bn : Arv Z h0 bn kn .int (16:Int32) [] (.int (0:Int32))) (F_rec : Fld Z h0 o0 "com/example/tavola/tavola/profile/CsvReader" "record" "[B" (.ref br)) (A_br : own_Arf Z h0 br kr .byte (256:Int32) (.int (0:Int32))) (V_o1 : Arv Z h0 o1 k1 .int (2:Int32) [] (.int (0:Int32))) (A_o2 : own_Arf Z h0 o2 k2 .byte (65536:Int32) (.int (0:Int32))) (g_o2 : n0 ≤ o2) (hp0 : ¬ p3 < (0:Int32)) (hp6 : ¬ (6:Int32) < p3) (lt1 : o1 < o2) (lt2 : o0 < o2) (lt3 : bn < o2) (lt4 : br < o2) :
    MetFree l (⟨"com/example/tavola/tavola/profile/CsvReader", "copyKey", "([I[BI)V"⟩ : MethodName) (head1 (Jvm.Cond.code (⟨"com/example/tavola/tavola/profile/CsvReader", "copyKey", "([I[BI)V"⟩ : MethodName) prog_81_method_14_code 7 none :: ws) ({ frames := 1, cells := 0, slots := 0, locals := 60 } : Room)) (fun a U => a = #[(.ref o0), (.ref o1), (.ref o2), (.int p3)] ∧ Z.Warmed39 U.vm ∧ U.heap = h0) (fun _ _ _ _ _ => True) (fun _ U o U' => ∃ v L, o = .returned v ∧ rm9Q Z o0 o1 o2 p3 k2 (2:Int32) h0 n0 v U'.heap L ∧ FrameEnd U o U' L ({ frames := 1, cells := 0, slots := 0, locals := 60 } : Room).cells ({ frames := 1, cells := 0, slots := 0, locals := 60 } : Room).slots) := by
  refine MetFree.of_bodySF (plainFor_of_name pn_9) hisR ?_
  intro p e s m args below meth c s₁ Bd hml0 hP hK
  obtain ⟨rfl, hZ, hh⟩ := hP
  have hx := Bd.exec
  have hby := Bd.bytes
  have hml : c.maxLocals = 7 := hml0
  have hown : s.vm.findClass "com/example/tavola/tavola/profile/CsvReader" = some m.cls := findClass_of_methodNamed Bd.named
  have hnm := (name_of_methodNamed Bd.named Bd.method).1
  have X0 : Stand p l e ({ frames := 1, cells := 0, slots := 0, locals := 60 } : Room) s m #[(.ref o0), (.ref o1), (.ref o2), (.int p3)] below meth c s₁ [] 0 0 := Stand.of_body Bd
  have e0 : s₁.heap = h0 := by rw [← hh, Bd.state]; rfl
  have N0 := Fr.nil n0
  have pre0 : ∀ t, Steps p.tables e below (s₁.setTop (mkF m 0 #[.val (.ref o0), .val (.ref o1), .val (.ref o2), .val (.int p3), .unset, .unset, .unset] [])) t → Steps p.tables e below (s₁.setTop (entryFrame m #[(.ref o0), (.ref o1), (.ref o2), (.int p3)] 7)) t := fun t k => castTop (ef_rm9_2 m o0 o1 o2 p3) k
  obtain ⟨cl1, Ar1, -, S1, N1', -, -⟩ := id V_o1
  obtain ⟨T2, X2, e2, st2⟩ := getF X0 hx hZ hown (host := "") (Or.inl (hw _ (oG (i := 19) rfl))) Via.refl e0 F_ends (g := (mkF m 27 #[.val (.ref o0), .val (.ref o1), .val (.ref o2), .val (.int p3), .val (.int p3), .val (.int (0:Int32)), .unset] [(.ref o0)])) rfl rfl (hb hby d9_27)
  obtain ⟨cl3, Ar3, q3, S3, N3', H3, G3⟩ := id V_o1
  have hin3 : ¬ ((0:Int32) < 0 ∨ cl3.slots.size ≤ ((0:Int32)).toNatClampNeg) := inb_of S3 ⟨by decide, by decide⟩
  obtain ⟨cl4, Ar4, q4, S4, N4', H4, G4⟩ := id V_bn
  have hin4 : ¬ ((0:Int32) < 0 ∨ cl4.slots.size ≤ ((0:Int32)).toNatClampNeg) := inb_of S4 ⟨by decide, by decide⟩
  obtain ⟨cl5, Ar5, q5, S5, N5', H5, G5⟩ := id V_o1
  have hin5 : ¬ ((0:Int32) < 0 ∨ cl5.slots.size ≤ ((0:Int32)).toNatClampNeg) := inb_of S5 ⟨by decide, by decide⟩
  obtain ⟨cq6, q6, q6'⟩ := (E_o0).cell
  obtain ⟨_, _, ⟨T6, L6, k6, n6⟩, -, X6, ⟨Lc6, hQ6, l6, y6, z6⟩, st6⟩ := X2.privateBack hx (y := (⟨"com/example/tavola/tavola/profile/CsvReader", "start", "(I)I"⟩ : MethodName)) hown (mvT hZ (hw _ (oG (i := 70) rfl))) (mvT hZ (hw _ (oG (i := 71) rfl))) (own_selP hZ (hw _ (oG (i := 3) rfl)) (hw _ (oG (i := 71) rfl)) (hw _ (oG (i := 72) rfl)) (by decide)) (Cond.privateMethod_at (mvP hZ (hw _ (oG (i := 72) rfl)) (args := #[]))) (mvT hZ (hw _ (oG (i := 73) rfl))) (by decide) (backOf (W := 1) (rm8 l Z aw hw [] o0 h0 n0 Z0) hZ (hw _ (oG (i := 73) rfl)) (hw _ (oG (i := 4) rfl)) (by decide) (by decide)) (g := (mkF m 40 #[.val (.ref o0), .val (.ref o1), .val (.ref o2), .val (.int p3), .val (.int p3), .val (.int (0:Int32)), .unset] [(.int (0:Int32)), (.ref o0), (.int (0:Int32))])) rfl (by rw [hml]; rfl) (Steps.refl _) (a := o0) (by rw [e2]; exact q6) q6' (argsL := [(.int (0:Int32))]) (rest := [(.int (0:Int32))]) (lenOf pd_rm9_2_0 rfl) rfl (by show 2 * 0 + _ ≤ _; exact Nat.le_of_eq rfl) (hb hby d9_40) (fun _ _ => ⟨rfl, e2, (by decide : 0 + 0 ≤ _), (by decide : 0 + 0 ≤ _)⟩)
  dsimp only [Pt.U, Pt.locs, Pt.cells, Pt.slots] at X6 l6 y6 z6 st6 hQ6
  subst l6 y6 z6
  obtain ⟨rfl, N6q, e6q⟩ := hQ6
  have N6 := Fr.app N0 N6q
  obtain ⟨T7, X7, e7, st7⟩ := getF X6 hx hZ hown (host := "") (Or.inl (hw _ (oG (i := 17) rfl))) Via.refl e6q F_rec (g := (mkF m 47 #[.val (.ref o0), .val (.ref o1), .val (.ref o2), .val (.int p3), .val (.int p3), .val (.int (0:Int32)), .val (.int (0:Int32))] [(.ref o0)])) rfl rfl (hb hby d9_47)
  obtain ⟨cl8, Ar8, q8, S8, N8', H8, G8⟩ := id V_o1
  have hin8 : ¬ ((0:Int32) < 0 ∨ cl8.slots.size ≤ ((0:Int32)).toNatClampNeg) := inb_of S8 ⟨by decide, by decide⟩
  obtain ⟨cq9, q9, q9'⟩ := (E_o0).cell
  obtain ⟨_, _, ⟨T9, L9, k9, n9⟩, -, X9, ⟨Lc9, hQ9, l9, y9, z9⟩, st9⟩ := X7.privateBack hx (y := (⟨"com/example/tavola/tavola/profile/CsvReader", "start", "(I)I"⟩ : MethodName)) hown (mvT hZ (hw _ (oG (i := 70) rfl))) (mvT hZ (hw _ (oG (i := 71) rfl))) (own_selP hZ (hw _ (oG (i := 3) rfl)) (hw _ (oG (i := 71) rfl)) (hw _ (oG (i := 72) rfl)) (by decide)) (Cond.privateMethod_at (mvP hZ (hw _ (oG (i := 72) rfl)) (args := #[]))) (mvT hZ (hw _ (oG (i := 73) rfl))) (by decide) (backOf (W := 1) (rm8 l Z aw hw [] o0 h0 n0 Z0) hZ (hw _ (oG (i := 73) rfl)) (hw _ (oG (i := 4) rfl)) (by decide) (by decide)) (g := (mkF m 55 #[.val (.ref o0), .val (.ref o1), .val (.ref o2), .val (.int p3), .val (.int p3), .val (.int (0:Int32)), .val (.int (0:Int32))] [(.int (0:Int32)), (.ref o0), (.ref br)])) rfl (by rw [hml]; rfl) (Steps.refl _) (a := o0) (by rw [e7]; exact q9) q9' (argsL := [(.int (0:Int32))]) (rest := [(.ref br)]) (lenOf pd_rm9_2_0 rfl) rfl (by show 2 * 0 + _ ≤ _; exact Nat.le_of_eq rfl) (hb hby d9_55) (fun _ _ => ⟨rfl, e7, (by decide : 0 + 0 ≤ _), (by decide : 0 + 0 ≤ _)⟩)
  dsimp only [Pt.U, Pt.locs, Pt.cells, Pt.slots] at X9 l9 y9 z9 st9 hQ9
  subst l9 y9 z9
  obtain ⟨rfl, N9q, e9q⟩ := hQ9
  have N9 := Fr.app N6 N9q
  obtain ⟨vr10, hlr10, Vr10⟩ := id A_br
  obtain ⟨vk10, hlk10, Vk10⟩ := id A_o2
  have ps_11 : ¬ p3 < (0:Int32) ∧ ¬ (6:Int32) < p3 := ⟨hp0, hp6⟩
  have hps10 := own_nat ps_11.1 (fun z => ps_11.2 (own_ltb z (by decide)))
  obtain ⟨T10, h10, L10, X10, e10, N10, K10, Vc10, st10⟩ := cpA X9 hx hZ hown (hw _ (oG (i := 81) rfl)) (hw _ (oG (i := 84) rfl)) (hw _ (oG (i := 82) rfl)) (hw _ (oG (i := 83) rfl)) e9q (us := []) Vr10 Vk10 (Or.inl ⟨rfl, rfl⟩) (by decide) ps_11.1 (by decide) (by decide) (by show _ + 0 ≤ _; exact hps10) rfl (by show _ + 0 ≤ _; exact Nat.le_trans hps10 hlk10) N9 g_o2 (g := (mkF m 63 #[.val (.ref o0), .val (.ref o1), .val (.ref o2), .val (.int p3), .val (.int p3), .val (.int (0:Int32)), .val (.int (0:Int32))] [(.int (0:Int32)), (.int p3), (.ref o2), (.int (0:Int32)), (.ref br)])) rfl (by rw [hml]; rfl) (rest := []) rfl (hb hby d9_63) (by decide) (W := 0) (by show 2 * 0 + _ ≤ _; exact Nat.le_of_eq rfl) (by decide)
  have Ac10 : own_Arf Z h10 o2 k2 .byte (65536:Int32) (.int (0:Int32)) := ⟨_, own_cplen hlk10 hps10 rfl, Vc10⟩
  have ne_12 : o1 ≠ o2 := by omega
  have Va_13 : Arv Z h10 o1 k1 .int (2:Int32) [] (.int (0:Int32)) := (V_o1.keep K10 (ninS ne_12 nin0))
  obtain ⟨cl14, Ar14, -, S14, N14', -, -⟩ := id Va_13
  obtain ⟨vs15, hl15, cl15, Ar15, q15, S15, N15', H15, G15⟩ := id Ac10
  have ps_16 : ¬ p3 < (0:Int32) ∧ ¬ (6:Int32) < p3 := ⟨hp0, hp6⟩
  have hin15 : ¬ (p3 < 0 ∨ cl15.slots.size ≤ (p3).toNatClampNeg) := inb_of S15 (own_px ps_16.1 (fun z => ps_16.2 (own_ltb z (by decide))))
  obtain ⟨T17, h17, X17, e17, W17, st17⟩ := stB X10 hx hZ e10 Ar15 (j := p3) hin15 (g := (mkF m 25 #[.val (.ref o0), .val (.ref o1), .val (.ref o2), .val (.int p3), .val (.int (p3 + (1:Int32))), .val (.int (1:Int32)), .val (.int (0:Int32))] [(.int (0:Int32)), (.int p3), (.ref o2)])) rfl rfl (hb hby d9_25)
  have As17 : own_Arf Z h17 o2 k2 .byte (65536:Int32) (.int (0:Int32)) := own_arfW hl15 Ar15 q15 S15 N15' H15 G15 (fits_nar_byte _) W17 hin15
  have N17 := Fr.snoc X17 N10 g_o2
  have ne_18 : o0 ≠ o2 := by omega
  have Ff_19 : Fld Z h17 o0 "com/example/tavola/tavola/profile/CsvReader" "ends" "[I" (.ref bn) := ((F_ends.keep K10 (ninS ne_18 nin0)).other W17 (Or.inl ne_18))
  obtain ⟨T20, X20, e20, st20⟩ := getF X17 hx hZ hown (host := "") (Or.inl (hw _ (oG (i := 19) rfl))) Via.refl e17 Ff_19 (g := (mkF m 27 #[.val (.ref o0), .val (.ref o1), .val (.ref o2), .val (.int p3), .val (.int (p3 + (1:Int32))), .val (.int (1:Int32)), .val (.int (0:Int32))] [(.ref o0)])) rfl rfl (hb hby d9_27)
  have Va_21 : Arv Z h17 o1 k1 .int (2:Int32) [] (.int (0:Int32)) := (Va_13.other W17 ne_12)
  obtain ⟨cl22, Ar22, q22, S22, N22', H22, G22⟩ := id Va_21
  have hin22 : ¬ ((1:Int32) < 0 ∨ cl22.slots.size ≤ ((1:Int32)).toNatClampNeg) := inb_of S22 ⟨by decide, by decide⟩
  have ne_23 : bn ≠ o2 := by omega
  have Va_24 : Arv Z h17 bn kn .int (16:Int32) [] (.int (0:Int32)) := ((V_bn.keep K10 (ninS ne_23 nin0)).other W17 ne_23)
  obtain ⟨cl25, Ar25, q25, S25, N25', H25, G25⟩ := id Va_24
  have hin25 : ¬ ((0:Int32) < 0 ∨ cl25.slots.size ≤ ((0:Int32)).toNatClampNeg) := inb_of S25 ⟨by decide, by decide⟩
  obtain ⟨cl26, Ar26, q26, S26, N26', H26, G26⟩ := id Va_21
  have hin26 : ¬ ((1:Int32) < 0 ∨ cl26.slots.size ≤ ((1:Int32)).toNatClampNeg) := inb_of S26 ⟨by decide, by decide⟩
  have Zz_28 : n0 ≤ h17.size := (Nat.le_trans (Nat.le_trans Z0 K10.1) (Keep.of_wr W17).1)
  have Ee_29 : Exa Z h17 o0 "com/example/tavola/tavola/profile/CsvReader" := ((E_o0.keep K10).wr W17)
  obtain ⟨cq27, q27, q27'⟩ := (Ee_29).cell
  obtain ⟨_, _, ⟨T27, L27, k27, n27⟩, -, X27, ⟨Lc27, hQ27, l27, y27, z27⟩, st27⟩ := X20.privateBack hx (y := (⟨"com/example/tavola/tavola/profile/CsvReader", "start", "(I)I"⟩ : MethodName)) hown (mvT hZ (hw _ (oG (i := 70) rfl))) (mvT hZ (hw _ (oG (i := 71) rfl))) (own_selP hZ (hw _ (oG (i := 3) rfl)) (hw _ (oG (i := 71) rfl)) (hw _ (oG (i := 72) rfl)) (by decide)) (Cond.privateMethod_at (mvP hZ (hw _ (oG (i := 72) rfl)) (args := #[]))) (mvT hZ (hw _ (oG (i := 73) rfl))) (by decide) (backOf (W := 1) (rm8 l Z aw hw [] o0 h17 n0 Zz_28) hZ (hw _ (oG (i := 73) rfl)) (hw _ (oG (i := 4) rfl)) (by decide) (by decide)) (g := (mkF m 40 #[.val (.ref o0), .val (.ref o1), .val (.ref o2), .val (.int p3), .val (.int (p3 + (1:Int32))), .val (.int (1:Int32)), .val (.int (0:Int32))] [(.int (0:Int32)), (.ref o0), (.int (0:Int32))])) rfl (by rw [hml]; rfl) (Steps.refl _) (a := o0) (by rw [e20]; exact q27) q27' (argsL := [(.int (0:Int32))]) (rest := [(.int (0:Int32))]) (lenOf pd_rm9_2_0 rfl) rfl (by show 2 * 0 + _ ≤ _; exact Nat.le_of_eq rfl) (hb hby d9_40) (fun _ _ => ⟨rfl, e20, (by decide : 0 + 0 ≤ _), (by decide : 0 + 0 ≤ _)⟩)
  dsimp only [Pt.U, Pt.locs, Pt.cells, Pt.slots] at X27 l27 y27 z27 st27 hQ27
  subst l27 y27 z27
  obtain ⟨rfl, N27q, e27q⟩ := hQ27
  have N27 := Fr.app N17 N27q
  have Ff_30 : Fld Z h17 o0 "com/example/tavola/tavola/profile/CsvReader" "record" "[B" (.ref br) := ((F_rec.keep K10 (ninS ne_18 nin0)).other W17 (Or.inl ne_18))
  obtain ⟨T31, X31, e31, st31⟩ := getF X27 hx hZ hown (host := "") (Or.inl (hw _ (oG (i := 17) rfl))) Via.refl e27q Ff_30 (g := (mkF m 47 #[.val (.ref o0), .val (.ref o1), .val (.ref o2), .val (.int p3), .val (.int (p3 + (1:Int32))), .val (.int (1:Int32)), .val (.int (0:Int32))] [(.ref o0)])) rfl rfl (hb hby d9_47)
  obtain ⟨cl32, Ar32, q32, S32, N32', H32, G32⟩ := id Va_21
  have hin32 : ¬ ((1:Int32) < 0 ∨ cl32.slots.size ≤ ((1:Int32)).toNatClampNeg) := inb_of S32 ⟨by decide, by decide⟩
  obtain ⟨cq33, q33, q33'⟩ := (Ee_29).cell
  obtain ⟨_, _, ⟨T33, L33, k33, n33⟩, -, X33, ⟨Lc33, hQ33, l33, y33, z33⟩, st33⟩ := X31.privateBack hx (y := (⟨"com/example/tavola/tavola/profile/CsvReader", "start", "(I)I"⟩ : MethodName)) hown (mvT hZ (hw _ (oG (i := 70) rfl))) (mvT hZ (hw _ (oG (i := 71) rfl))) (own_selP hZ (hw _ (oG (i := 3) rfl)) (hw _ (oG (i := 71) rfl)) (hw _ (oG (i := 72) rfl)) (by decide)) (Cond.privateMethod_at (mvP hZ (hw _ (oG (i := 72) rfl)) (args := #[]))) (mvT hZ (hw _ (oG (i := 73) rfl))) (by decide) (backOf (W := 1) (rm8 l Z aw hw [] o0 h17 n0 Zz_28) hZ (hw _ (oG (i := 73) rfl)) (hw _ (oG (i := 4) rfl)) (by decide) (by decide)) (g := (mkF m 55 #[.val (.ref o0), .val (.ref o1), .val (.ref o2), .val (.int p3), .val (.int (p3 + (1:Int32))), .val (.int (1:Int32)), .val (.int (0:Int32))] [(.int (0:Int32)), (.ref o0), (.ref br)])) rfl (by rw [hml]; rfl) (Steps.refl _) (a := o0) (by rw [e31]; exact q33) q33' (argsL := [(.int (0:Int32))]) (rest := [(.ref br)]) (lenOf pd_rm9_2_0 rfl) rfl (by show 2 * 0 + _ ≤ _; exact Nat.le_of_eq rfl) (hb hby d9_55) (fun _ _ => ⟨rfl, e31, (by decide : 0 + 0 ≤ _), (by decide : 0 + 0 ≤ _)⟩)
  dsimp only [Pt.U, Pt.locs, Pt.cells, Pt.slots] at X33 l33 y33 z33 st33 hQ33
  subst l33 y33 z33
  obtain ⟨rfl, N33q, e33q⟩ := hQ33
  have N33 := Fr.app N27 N33q
  have ne_34 : br ≠ o2 := by omega
  have Aa_35 : own_Arf Z h17 br kr .byte (256:Int32) (.int (0:Int32)) := (own_arfO (own_arfK A_br K10 (ninS ne_34 nin0)) W17 ne_34)
  obtain ⟨vr36, hlr36, Vr36⟩ := id Aa_35
  obtain ⟨vk36, hlk36, Vk36⟩ := id As17
  have ps_37 : ¬ (p3 + (1:Int32)) < (0:Int32) ∧ ¬ (7:Int32) < (p3 + (1:Int32)) := (own_up hp0 hp6 (m := (7:Int32)) (by decide) (by decide))
  have hps36 := own_nat ps_37.1 (fun z => ps_37.2 (own_ltb z (by decide)))
  obtain ⟨T36, h36, L36, X36, e36, N36, K36, Vc36, st36⟩ := cpA X33 hx hZ hown (hw _ (oG (i := 81) rfl)) (hw _ (oG (i := 84) rfl)) (hw _ (oG (i := 82) rfl)) (hw _ (oG (i := 83) rfl)) e33q (us := []) Vr36 Vk36 (Or.inl ⟨rfl, rfl⟩) (by decide) ps_37.1 (by decide) (by decide) (by show _ + 0 ≤ _; exact hps36) rfl (by show _ + 0 ≤ _; exact Nat.le_trans hps36 hlk36) N33 g_o2 (g := (mkF m 63 #[.val (.ref o0), .val (.ref o1), .val (.ref o2), .val (.int p3), .val (.int (p3 + (1:Int32))), .val (.int (1:Int32)), .val (.int (0:Int32))] [(.int (0:Int32)), (.int (p3 + (1:Int32))), (.ref o2), (.int (0:Int32)), (.ref br)])) rfl (by rw [hml]; rfl) (rest := []) rfl (hb hby d9_63) (by decide) (W := 0) (by show 2 * 0 + _ ≤ _; exact Nat.le_of_eq rfl) (by decide)
  have Ac36 : own_Arf Z h36 o2 k2 .byte (65536:Int32) (.int (0:Int32)) := ⟨_, own_cplen hlk36 hps36 rfl, Vc36⟩
  have Va_38 : Arv Z h36 o1 k1 .int (2:Int32) [] (.int (0:Int32)) := (Va_21.keep K36 (ninS ne_12 nin0))
  obtain ⟨cl39, Ar39, -, S39, N39', -, -⟩ := id Va_38
  have Kk_40 : Keep h0 h36 [o2] := ((((Keep.refl h0 [o2]).trans K10 (allS (Or.inl (oG (i := 0) rfl)) all0)).wr W17 (Or.inl (oG (i := 0) rfl))).trans K36 (allS (Or.inl (oG (i := 0) rfl)) all0))
  obtain ⟨fs, hr, hrun, hended, hW, hsame⟩ := X36.leave (v := none) (fun _ => rfl)
  refine ⟨_, _, pre0 _ ?_, hrun, hended, _, _, rfl, ?_, ⟨_, rfl⟩, hW, hsame.mono (by decide) (by decide)⟩
  · show Steps p.tables e below (s₁.setTop (mkF m 0 #[.val (.ref o0), .val (.ref o1), .val (.ref o2), .val (.int p3), .unset, .unset, .unset] [])) _
    refine XS.iloadN X0.here hx rfl (hb hby d9_0) rfl ?_
    refine XS.istore X0.here hx rfl (hb hby d9_1) rfl (l' := #[.val (.ref o0), .val (.ref o1), .val (.ref o2), .val (.int p3), .val (.int p3), .unset, .unset]) rfl ?_
    refine XS.iconst X0.here hx rfl (hb hby d9_3) ?_
    refine XS.istore X0.here hx rfl (hb hby d9_4) rfl (l' := #[.val (.ref o0), .val (.ref o1), .val (.ref o2), .val (.int p3), .val (.int p3), .val (.int (0:Int32)), .unset]) rfl ?_
    refine XS.iload X0.here hx rfl (hb hby d9_6) rfl ?_
    refine XS.aloadN X0.here hx rfl (hb hby d9_8) rfl rfl ?_
    show Steps p.tables e below (s₁.setTop (mkF m 9 #[.val (.ref o0), .val (.ref o1), .val (.ref o2), .val (.int p3), .val (.int p3), .val (.int (0:Int32)), .unset] [(.ref o1), (.int (0:Int32))])) _
    refine X0.arraylength hx (by rw [e0]; exact Ar1.1) (State.isArrayOf_alike hZ.alike Ar1.2.1) (g := (mkF m 9 #[.val (.ref o0), .val (.ref o1), .val (.ref o2), .val (.int p3), .val (.int p3), .val (.int (0:Int32)), .unset] [(.ref o1), (.int (0:Int32))])) rfl rfl (hb hby d9_9) _ ?_
    rw [len_of S1 N1']
    show Steps p.tables e below (s₁.setTop (mkF m 10 #[.val (.ref o0), .val (.ref o1), .val (.ref o2), .val (.int p3), .val (.int p3), .val (.int (0:Int32)), .unset] [(.int (2:Int32)), (.int (0:Int32))])) _
    refine XS.icmpNo X0.here hx rfl (hb hby d9_10) rfl (tlt ((by decide) : (0:Int32) < (2:Int32))).2.1 ?_
    refine XS.iload X0.here hx rfl (hb hby d9_13) rfl ?_
    refine XS.ifYes X0.here hx rfl (pc0 := 15) (pc' := 26) rfl (hb hby d9_15) rfl ((if0 _ _).trans (flt ((by decide) : ¬ ((0:Int32) < (0:Int32)))).2.2.2) (by decide) (by decide) ?_
    refine XS.aloadN X0.here hx rfl (hb hby d9_26) rfl rfl ?_
    show Steps p.tables e below (s₁.setTop (mkF m 27 #[.val (.ref o0), .val (.ref o1), .val (.ref o2), .val (.int p3), .val (.int p3), .val (.int (0:Int32)), .unset] [(.ref o0)])) _
    refine st2 _ ?_
    show Steps p.tables e below (T2.setTop (mkF m 30 #[.val (.ref o0), .val (.ref o1), .val (.ref o2), .val (.int p3), .val (.int p3), .val (.int (0:Int32)), .unset] [(.ref bn)])) _
    refine XS.aloadN X2.here hx rfl (hb hby d9_30) rfl rfl ?_
    refine XS.iload X2.here hx rfl (hb hby d9_31) rfl ?_
    show Steps p.tables e below (T2.setTop (mkF m 33 #[.val (.ref o0), .val (.ref o1), .val (.ref o2), .val (.int p3), .val (.int p3), .val (.int (0:Int32)), .unset] [(.int (0:Int32)), (.ref o1), (.ref bn)])) _
    refine X2.iaload hx (j := (0:Int32)) (v := (.int (0:Int32))) (by rw [e2]; exact Ar3.1) (State.isArrayOf_alike hZ.alike Ar3.2.1) Ar3.2.2 hin3 (H3.at hin3 rfl) (g := (mkF m 33 #[.val (.ref o0), .val (.ref o1), .val (.ref o2), .val (.int p3), .val (.int p3), .val (.int (0:Int32)), .unset] [(.int (0:Int32)), (.ref o1), (.ref bn)])) rfl rfl (hb hby d9_33) _ ?_
    show Steps p.tables e below (T2.setTop (mkF m 34 #[.val (.ref o0), .val (.ref o1), .val (.ref o2), .val (.int p3), .val (.int p3), .val (.int (0:Int32)), .unset] [(.int (0:Int32)), (.ref bn)])) _
    refine X2.iaload hx (j := (0:Int32)) (v := (.int (0:Int32))) (by rw [e2]; exact Ar4.1) (State.isArrayOf_alike hZ.alike Ar4.2.1) Ar4.2.2 hin4 (H4.at hin4 rfl) (g := (mkF m 34 #[.val (.ref o0), .val (.ref o1), .val (.ref o2), .val (.int p3), .val (.int p3), .val (.int (0:Int32)), .unset] [(.int (0:Int32)), (.ref bn)])) rfl rfl (hb hby d9_34) _ ?_
    show Steps p.tables e below (T2.setTop (mkF m 35 #[.val (.ref o0), .val (.ref o1), .val (.ref o2), .val (.int p3), .val (.int p3), .val (.int (0:Int32)), .unset] [(.int (0:Int32))])) _
    refine XS.aloadN X2.here hx rfl (hb hby d9_35) rfl rfl ?_
    refine XS.aloadN X2.here hx rfl (hb hby d9_36) rfl rfl ?_
    refine XS.iload X2.here hx rfl (hb hby d9_37) rfl ?_
    show Steps p.tables e below (T2.setTop (mkF m 39 #[.val (.ref o0), .val (.ref o1), .val (.ref o2), .val (.int p3), .val (.int p3), .val (.int (0:Int32)), .unset] [(.int (0:Int32)), (.ref o1), (.ref o0), (.int (0:Int32))])) _
    refine X2.iaload hx (j := (0:Int32)) (v := (.int (0:Int32))) (by rw [e2]; exact Ar5.1) (State.isArrayOf_alike hZ.alike Ar5.2.1) Ar5.2.2 hin5 (H5.at hin5 rfl) (g := (mkF m 39 #[.val (.ref o0), .val (.ref o1), .val (.ref o2), .val (.int p3), .val (.int p3), .val (.int (0:Int32)), .unset] [(.int (0:Int32)), (.ref o1), (.ref o0), (.int (0:Int32))])) rfl rfl (hb hby d9_39) _ ?_
    show Steps p.tables e below (T2.setTop (mkF m 40 #[.val (.ref o0), .val (.ref o1), .val (.ref o2), .val (.int p3), .val (.int p3), .val (.int (0:Int32)), .unset] [(.int (0:Int32)), (.ref o0), (.int (0:Int32))])) _
    refine st6.trans ?_
    show Steps p.tables e below (T6.setTop (mkF m 43 #[.val (.ref o0), .val (.ref o1), .val (.ref o2), .val (.int p3), .val (.int p3), .val (.int (0:Int32)), .unset] [(.int (0:Int32)), (.int (0:Int32))])) _
    refine XS.isub X6.here hx rfl (hb hby d9_43) rfl ?_
    rw [show ((0:Int32) - (0:Int32)) = (0:Int32) from by decide]
    show Steps p.tables e below (T6.setTop (mkF m 44 #[.val (.ref o0), .val (.ref o1), .val (.ref o2), .val (.int p3), .val (.int p3), .val (.int (0:Int32)), .unset] [(.int (0:Int32))])) _
    refine XS.istore X6.here hx rfl (hb hby d9_44) rfl (l' := #[.val (.ref o0), .val (.ref o1), .val (.ref o2), .val (.int p3), .val (.int p3), .val (.int (0:Int32)), .val (.int (0:Int32))]) rfl ?_
    refine XS.aloadN X6.here hx rfl (hb hby d9_46) rfl rfl ?_
    show Steps p.tables e below (T6.setTop (mkF m 47 #[.val (.ref o0), .val (.ref o1), .val (.ref o2), .val (.int p3), .val (.int p3), .val (.int (0:Int32)), .val (.int (0:Int32))] [(.ref o0)])) _
    refine st7 _ ?_
    show Steps p.tables e below (T7.setTop (mkF m 50 #[.val (.ref o0), .val (.ref o1), .val (.ref o2), .val (.int p3), .val (.int p3), .val (.int (0:Int32)), .val (.int (0:Int32))] [(.ref br)])) _
    refine XS.aloadN X7.here hx rfl (hb hby d9_50) rfl rfl ?_
    refine XS.aloadN X7.here hx rfl (hb hby d9_51) rfl rfl ?_
    refine XS.iload X7.here hx rfl (hb hby d9_52) rfl ?_
    show Steps p.tables e below (T7.setTop (mkF m 54 #[.val (.ref o0), .val (.ref o1), .val (.ref o2), .val (.int p3), .val (.int p3), .val (.int (0:Int32)), .val (.int (0:Int32))] [(.int (0:Int32)), (.ref o1), (.ref o0), (.ref br)])) _
    refine X7.iaload hx (j := (0:Int32)) (v := (.int (0:Int32))) (by rw [e7]; exact Ar8.1) (State.isArrayOf_alike hZ.alike Ar8.2.1) Ar8.2.2 hin8 (H8.at hin8 rfl) (g := (mkF m 54 #[.val (.ref o0), .val (.ref o1), .val (.ref o2), .val (.int p3), .val (.int p3), .val (.int (0:Int32)), .val (.int (0:Int32))] [(.int (0:Int32)), (.ref o1), (.ref o0), (.ref br)])) rfl rfl (hb hby d9_54) _ ?_
    show Steps p.tables e below (T7.setTop (mkF m 55 #[.val (.ref o0), .val (.ref o1), .val (.ref o2), .val (.int p3), .val (.int p3), .val (.int (0:Int32)), .val (.int (0:Int32))] [(.int (0:Int32)), (.ref o0), (.ref br)])) _
    refine st9.trans ?_
    show Steps p.tables e below (T9.setTop (mkF m 58 #[.val (.ref o0), .val (.ref o1), .val (.ref o2), .val (.int p3), .val (.int p3), .val (.int (0:Int32)), .val (.int (0:Int32))] [(.int (0:Int32)), (.ref br)])) _
    refine XS.aloadN X9.here hx rfl (hb hby d9_58) rfl rfl ?_
    refine XS.iload X9.here hx rfl (hb hby d9_59) rfl ?_
    refine XS.iload X9.here hx rfl (hb hby d9_61) rfl ?_
    show Steps p.tables e below (T9.setTop (mkF m 63 #[.val (.ref o0), .val (.ref o1), .val (.ref o2), .val (.int p3), .val (.int p3), .val (.int (0:Int32)), .val (.int (0:Int32))] [(.int (0:Int32)), (.int p3), (.ref o2), (.int (0:Int32)), (.ref br)])) _
    refine st10 _ ?_
    show Steps p.tables e below (T10.setTop (mkF m 66 #[.val (.ref o0), .val (.ref o1), .val (.ref o2), .val (.int p3), .val (.int p3), .val (.int (0:Int32)), .val (.int (0:Int32))] [])) _
    refine XS.iload X10.here hx rfl (hb hby d9_66) rfl ?_
    refine XS.iload X10.here hx rfl (hb hby d9_68) rfl ?_
    show Steps p.tables e below (T10.setTop (mkF m 70 #[.val (.ref o0), .val (.ref o1), .val (.ref o2), .val (.int p3), .val (.int p3), .val (.int (0:Int32)), .val (.int (0:Int32))] [(.int (0:Int32)), (.int p3)])) _
    refine XS.iadd X10.here hx rfl (hb hby d9_70) rfl ?_
    rw [Int32.add_zero]
    show Steps p.tables e below (T10.setTop (mkF m 71 #[.val (.ref o0), .val (.ref o1), .val (.ref o2), .val (.int p3), .val (.int p3), .val (.int (0:Int32)), .val (.int (0:Int32))] [(.int p3)])) _
    refine XS.istore X10.here hx rfl (hb hby d9_71) rfl (l' := #[.val (.ref o0), .val (.ref o1), .val (.ref o2), .val (.int p3), .val (.int p3), .val (.int (0:Int32)), .val (.int (0:Int32))]) rfl ?_
    refine XS.iinc X10.here hx rfl (hb hby d9_73) rfl (l' := #[.val (.ref o0), .val (.ref o1), .val (.ref o2), .val (.int p3), .val (.int p3), .val (.int (1:Int32)), .val (.int (0:Int32))]) rfl ?_
    refine XS.goto X10.here hx rfl (pc0 := 76) (pc' := 6) rfl (hb hby d9_76) (by decide) (by decide) ?_
    refine XS.iload X10.here hx rfl (hb hby d9_6) rfl ?_
    refine XS.aloadN X10.here hx rfl (hb hby d9_8) rfl rfl ?_
    show Steps p.tables e below (T10.setTop (mkF m 9 #[.val (.ref o0), .val (.ref o1), .val (.ref o2), .val (.int p3), .val (.int p3), .val (.int (1:Int32)), .val (.int (0:Int32))] [(.ref o1), (.int (1:Int32))])) _
    refine X10.arraylength hx (by rw [e10]; exact Ar14.1) (State.isArrayOf_alike hZ.alike Ar14.2.1) (g := (mkF m 9 #[.val (.ref o0), .val (.ref o1), .val (.ref o2), .val (.int p3), .val (.int p3), .val (.int (1:Int32)), .val (.int (0:Int32))] [(.ref o1), (.int (1:Int32))])) rfl rfl (hb hby d9_9) _ ?_
    rw [len_of S14 N14']
    show Steps p.tables e below (T10.setTop (mkF m 10 #[.val (.ref o0), .val (.ref o1), .val (.ref o2), .val (.int p3), .val (.int p3), .val (.int (1:Int32)), .val (.int (0:Int32))] [(.int (2:Int32)), (.int (1:Int32))])) _
    refine XS.icmpNo X10.here hx rfl (hb hby d9_10) rfl (tlt ((by decide) : (1:Int32) < (2:Int32))).2.1 ?_
    refine XS.iload X10.here hx rfl (hb hby d9_13) rfl ?_
    refine XS.ifNo X10.here hx rfl (hb hby d9_15) rfl ((if0 _ _).trans (tlt ((by decide) : (0:Int32) < (1:Int32))).2.2.2) ?_
    refine XS.aloadN X10.here hx rfl (hb hby d9_18) rfl rfl ?_
    refine XS.iload X10.here hx rfl (hb hby d9_19) rfl ?_
    refine XS.iinc X10.here hx rfl (hb hby d9_21) rfl (l' := #[.val (.ref o0), .val (.ref o1), .val (.ref o2), .val (.int p3), .val (.int (p3 + (1:Int32))), .val (.int (1:Int32)), .val (.int (0:Int32))]) rfl ?_
    refine XS.iconst X10.here hx rfl (hb hby d9_24) ?_
    show Steps p.tables e below (T10.setTop (mkF m 25 #[.val (.ref o0), .val (.ref o1), .val (.ref o2), .val (.int p3), .val (.int (p3 + (1:Int32))), .val (.int (1:Int32)), .val (.int (0:Int32))] [(.int (0:Int32)), (.int p3), (.ref o2)])) _
    refine st17 _ ?_
    show Steps p.tables e below (T17.setTop (mkF m 26 #[.val (.ref o0), .val (.ref o1), .val (.ref o2), .val (.int p3), .val (.int (p3 + (1:Int32))), .val (.int (1:Int32)), .val (.int (0:Int32))] [])) _
    refine XS.aloadN X17.here hx rfl (hb hby d9_26) rfl rfl ?_
    show Steps p.tables e below (T17.setTop (mkF m 27 #[.val (.ref o0), .val (.ref o1), .val (.ref o2), .val (.int p3), .val (.int (p3 + (1:Int32))), .val (.int (1:Int32)), .val (.int (0:Int32))] [(.ref o0)])) _
    refine st20 _ ?_
    show Steps p.tables e below (T20.setTop (mkF m 30 #[.val (.ref o0), .val (.ref o1), .val (.ref o2), .val (.int p3), .val (.int (p3 + (1:Int32))), .val (.int (1:Int32)), .val (.int (0:Int32))] [(.ref bn)])) _
    refine XS.aloadN X20.here hx rfl (hb hby d9_30) rfl rfl ?_
    refine XS.iload X20.here hx rfl (hb hby d9_31) rfl ?_
    show Steps p.tables e below (T20.setTop (mkF m 33 #[.val (.ref o0), .val (.ref o1), .val (.ref o2), .val (.int p3), .val (.int (p3 + (1:Int32))), .val (.int (1:Int32)), .val (.int (0:Int32))] [(.int (1:Int32)), (.ref o1), (.ref bn)])) _
    refine X20.iaload hx (j := (1:Int32)) (v := (.int (0:Int32))) (by rw [e20]; exact Ar22.1) (State.isArrayOf_alike hZ.alike Ar22.2.1) Ar22.2.2 hin22 (H22.at hin22 rfl) (g := (mkF m 33 #[.val (.ref o0), .val (.ref o1), .val (.ref o2), .val (.int p3), .val (.int (p3 + (1:Int32))), .val (.int (1:Int32)), .val (.int (0:Int32))] [(.int (1:Int32)), (.ref o1), (.ref bn)])) rfl rfl (hb hby d9_33) _ ?_
    show Steps p.tables e below (T20.setTop (mkF m 34 #[.val (.ref o0), .val (.ref o1), .val (.ref o2), .val (.int p3), .val (.int (p3 + (1:Int32))), .val (.int (1:Int32)), .val (.int (0:Int32))] [(.int (0:Int32)), (.ref bn)])) _
    refine X20.iaload hx (j := (0:Int32)) (v := (.int (0:Int32))) (by rw [e20]; exact Ar25.1) (State.isArrayOf_alike hZ.alike Ar25.2.1) Ar25.2.2 hin25 (H25.at hin25 rfl) (g := (mkF m 34 #[.val (.ref o0), .val (.ref o1), .val (.ref o2), .val (.int p3), .val (.int (p3 + (1:Int32))), .val (.int (1:Int32)), .val (.int (0:Int32))] [(.int (0:Int32)), (.ref bn)])) rfl rfl (hb hby d9_34) _ ?_
    show Steps p.tables e below (T20.setTop (mkF m 35 #[.val (.ref o0), .val (.ref o1), .val (.ref o2), .val (.int p3), .val (.int (p3 + (1:Int32))), .val (.int (1:Int32)), .val (.int (0:Int32))] [(.int (0:Int32))])) _
    refine XS.aloadN X20.here hx rfl (hb hby d9_35) rfl rfl ?_
    refine XS.aloadN X20.here hx rfl (hb hby d9_36) rfl rfl ?_
    refine XS.iload X20.here hx rfl (hb hby d9_37) rfl ?_
    show Steps p.tables e below (T20.setTop (mkF m 39 #[.val (.ref o0), .val (.ref o1), .val (.ref o2), .val (.int p3), .val (.int (p3 + (1:Int32))), .val (.int (1:Int32)), .val (.int (0:Int32))] [(.int (1:Int32)), (.ref o1), (.ref o0), (.int (0:Int32))])) _
    refine X20.iaload hx (j := (1:Int32)) (v := (.int (0:Int32))) (by rw [e20]; exact Ar26.1) (State.isArrayOf_alike hZ.alike Ar26.2.1) Ar26.2.2 hin26 (H26.at hin26 rfl) (g := (mkF m 39 #[.val (.ref o0), .val (.ref o1), .val (.ref o2), .val (.int p3), .val (.int (p3 + (1:Int32))), .val (.int (1:Int32)), .val (.int (0:Int32))] [(.int (1:Int32)), (.ref o1), (.ref o0), (.int (0:Int32))])) rfl rfl (hb hby d9_39) _ ?_
    show Steps p.tables e below (T20.setTop (mkF m 40 #[.val (.ref o0), .val (.ref o1), .val (.ref o2), .val (.int p3), .val (.int (p3 + (1:Int32))), .val (.int (1:Int32)), .val (.int (0:Int32))] [(.int (0:Int32)), (.ref o0), (.int (0:Int32))])) _
    refine st27.trans ?_
    show Steps p.tables e below (T27.setTop (mkF m 43 #[.val (.ref o0), .val (.ref o1), .val (.ref o2), .val (.int p3), .val (.int (p3 + (1:Int32))), .val (.int (1:Int32)), .val (.int (0:Int32))] [(.int (0:Int32)), (.int (0:Int32))])) _
    refine XS.isub X27.here hx rfl (hb hby d9_43) rfl ?_
    rw [show ((0:Int32) - (0:Int32)) = (0:Int32) from by decide]
    show Steps p.tables e below (T27.setTop (mkF m 44 #[.val (.ref o0), .val (.ref o1), .val (.ref o2), .val (.int p3), .val (.int (p3 + (1:Int32))), .val (.int (1:Int32)), .val (.int (0:Int32))] [(.int (0:Int32))])) _
    refine XS.istore X27.here hx rfl (hb hby d9_44) rfl (l' := #[.val (.ref o0), .val (.ref o1), .val (.ref o2), .val (.int p3), .val (.int (p3 + (1:Int32))), .val (.int (1:Int32)), .val (.int (0:Int32))]) rfl ?_
    refine XS.aloadN X27.here hx rfl (hb hby d9_46) rfl rfl ?_
    show Steps p.tables e below (T27.setTop (mkF m 47 #[.val (.ref o0), .val (.ref o1), .val (.ref o2), .val (.int p3), .val (.int (p3 + (1:Int32))), .val (.int (1:Int32)), .val (.int (0:Int32))] [(.ref o0)])) _
    refine st31 _ ?_
    show Steps p.tables e below (T31.setTop (mkF m 50 #[.val (.ref o0), .val (.ref o1), .val (.ref o2), .val (.int p3), .val (.int (p3 + (1:Int32))), .val (.int (1:Int32)), .val (.int (0:Int32))] [(.ref br)])) _
    refine XS.aloadN X31.here hx rfl (hb hby d9_50) rfl rfl ?_
    refine XS.aloadN X31.here hx rfl (hb hby d9_51) rfl rfl ?_
    refine XS.iload X31.here hx rfl (hb hby d9_52) rfl ?_
    show Steps p.tables e below (T31.setTop (mkF m 54 #[.val (.ref o0), .val (.ref o1), .val (.ref o2), .val (.int p3), .val (.int (p3 + (1:Int32))), .val (.int (1:Int32)), .val (.int (0:Int32))] [(.int (1:Int32)), (.ref o1), (.ref o0), (.ref br)])) _
    refine X31.iaload hx (j := (1:Int32)) (v := (.int (0:Int32))) (by rw [e31]; exact Ar32.1) (State.isArrayOf_alike hZ.alike Ar32.2.1) Ar32.2.2 hin32 (H32.at hin32 rfl) (g := (mkF m 54 #[.val (.ref o0), .val (.ref o1), .val (.ref o2), .val (.int p3), .val (.int (p3 + (1:Int32))), .val (.int (1:Int32)), .val (.int (0:Int32))] [(.int (1:Int32)), (.ref o1), (.ref o0), (.ref br)])) rfl rfl (hb hby d9_54) _ ?_
    show Steps p.tables e below (T31.setTop (mkF m 55 #[.val (.ref o0), .val (.ref o1), .val (.ref o2), .val (.int p3), .val (.int (p3 + (1:Int32))), .val (.int (1:Int32)), .val (.int (0:Int32))] [(.int (0:Int32)), (.ref o0), (.ref br)])) _
    refine st33.trans ?_
    show Steps p.tables e below (T33.setTop (mkF m 58 #[.val (.ref o0), .val (.ref o1), .val (.ref o2), .val (.int p3), .val (.int (p3 + (1:Int32))), .val (.int (1:Int32)), .val (.int (0:Int32))] [(.int (0:Int32)), (.ref br)])) _
    refine XS.aloadN X33.here hx rfl (hb hby d9_58) rfl rfl ?_
    refine XS.iload X33.here hx rfl (hb hby d9_59) rfl ?_
    refine XS.iload X33.here hx rfl (hb hby d9_61) rfl ?_
    show Steps p.tables e below (T33.setTop (mkF m 63 #[.val (.ref o0), .val (.ref o1), .val (.ref o2), .val (.int p3), .val (.int (p3 + (1:Int32))), .val (.int (1:Int32)), .val (.int (0:Int32))] [(.int (0:Int32)), (.int (p3 + (1:Int32))), (.ref o2), (.int (0:Int32)), (.ref br)])) _
    refine st36 _ ?_
    show Steps p.tables e below (T36.setTop (mkF m 66 #[.val (.ref o0), .val (.ref o1), .val (.ref o2), .val (.int p3), .val (.int (p3 + (1:Int32))), .val (.int (1:Int32)), .val (.int (0:Int32))] [])) _
    refine XS.iload X36.here hx rfl (hb hby d9_66) rfl ?_
    refine XS.iload X36.here hx rfl (hb hby d9_68) rfl ?_
    show Steps p.tables e below (T36.setTop (mkF m 70 #[.val (.ref o0), .val (.ref o1), .val (.ref o2), .val (.int p3), .val (.int (p3 + (1:Int32))), .val (.int (1:Int32)), .val (.int (0:Int32))] [(.int (0:Int32)), (.int (p3 + (1:Int32)))])) _
    refine XS.iadd X36.here hx rfl (hb hby d9_70) rfl ?_
    rw [Int32.add_zero]
    show Steps p.tables e below (T36.setTop (mkF m 71 #[.val (.ref o0), .val (.ref o1), .val (.ref o2), .val (.int p3), .val (.int (p3 + (1:Int32))), .val (.int (1:Int32)), .val (.int (0:Int32))] [(.int (p3 + (1:Int32)))])) _
    refine XS.istore X36.here hx rfl (hb hby d9_71) rfl (l' := #[.val (.ref o0), .val (.ref o1), .val (.ref o2), .val (.int p3), .val (.int (p3 + (1:Int32))), .val (.int (1:Int32)), .val (.int (0:Int32))]) rfl ?_
    refine XS.iinc X36.here hx rfl (hb hby d9_73) rfl (l' := #[.val (.ref o0), .val (.ref o1), .val (.ref o2), .val (.int p3), .val (.int (p3 + (1:Int32))), .val (.int (2:Int32)), .val (.int (0:Int32))]) rfl ?_
    refine XS.goto X36.here hx rfl (pc0 := 76) (pc' := 6) rfl (hb hby d9_76) (by decide) (by decide) ?_
    refine XS.iload X36.here hx rfl (hb hby d9_6) rfl ?_
    refine XS.aloadN X36.here hx rfl (hb hby d9_8) rfl rfl ?_
    show Steps p.tables e below (T36.setTop (mkF m 9 #[.val (.ref o0), .val (.ref o1), .val (.ref o2), .val (.int p3), .val (.int (p3 + (1:Int32))), .val (.int (2:Int32)), .val (.int (0:Int32))] [(.ref o1), (.int (2:Int32))])) _
    refine X36.arraylength hx (by rw [e36]; exact Ar39.1) (State.isArrayOf_alike hZ.alike Ar39.2.1) (g := (mkF m 9 #[.val (.ref o0), .val (.ref o1), .val (.ref o2), .val (.int p3), .val (.int (p3 + (1:Int32))), .val (.int (2:Int32)), .val (.int (0:Int32))] [(.ref o1), (.int (2:Int32))])) rfl rfl (hb hby d9_9) _ ?_
    rw [len_of S39 N39']
    show Steps p.tables e below (T36.setTop (mkF m 10 #[.val (.ref o0), .val (.ref o1), .val (.ref o2), .val (.int p3), .val (.int (p3 + (1:Int32))), .val (.int (2:Int32)), .val (.int (0:Int32))] [(.int (2:Int32)), (.int (2:Int32))])) _
    refine XS.icmpYes X36.here hx rfl (pc0 := 10) (pc' := 79) rfl (hb hby d9_10) rfl (flt ((by decide) : ¬ ((2:Int32) < (2:Int32)))).2.1 (by decide) (by decide) ?_
    show Steps p.tables e below (T36.setTop (mkF m 79 #[.val (.ref o0), .val (.ref o1), .val (.ref o2), .val (.int p3), .val (.int (p3 + (1:Int32))), .val (.int (2:Int32)), .val (.int (0:Int32))] [])) _
    exact X36.returnOut hx Bd.returns (hb hby d9_79) hr
  · show rm9Q Z o0 o1 o2 p3 k2 (2:Int32) h0 n0 _ T36.heap _
    rw [e36]
    exact ⟨rfl, N36, Kk_40, Ac36⟩
theorem pd_rm9_3_0 : parseMethodDescriptor "(I)I" = some ⟨[.int], some .int⟩ := by decide +kernel
theorem ef_rm9_3 (m : MethodId) (o0 : Nat) (o1 : Nat) (o2 : Nat) (p3 : Int32) : entryFrame m #[(.ref o0), (.ref o1), (.ref o2), (.int p3)] 7 = mkF m 0 #[.val (.ref o0), .val (.ref o1), .val (.ref o2), .val (.int p3), .unset, .unset, .unset] [] := by first | (simp [entryFrame, mkF, argsToLocals, Value.category]; done) | rfl
set_option maxRecDepth 65536 in
set_option maxHeartbeats 40000000 in
theorem rm9_3 (l : Launch) (Z : State) (aw : Array Value) (hw : ∀ d ∈ tables_1, d.before aw Z = true) (ws : List Jvm.Cond) (o0 : Nat) (o1 : Nat) (o2 : Nat) (p3 : Int32) (bn br : Nat) (kn kr k1 k2 : ClassId) (h0 : Heap) (n0 : Nat) (Z0 : n0 ≤ h0.size) (E_o0 : Exa Z h0 o0 "com/example/tavola/tavola/profile/CsvReader") (F_ends : Fld Z h0 o0 "com/example/tavola/tavola/profile/CsvReader" "ends" "[I" (.ref bn)) (V_bn : Arv Z h0 bn kn .int (16:Int32) [] (.int (0:Int32))) (F_rec : Fld Z h0 o0 "com/example/tavola/tavola/profile/CsvReader" "record" "[B" (.ref br)) (A_br : own_Arf Z h0 br kr .byte (256:Int32) (.int (0:Int32))) (V_o1 : Arv Z h0 o1 k1 .int (3:Int32) [] (.int (0:Int32))) (A_o2 : own_Arf Z h0 o2 k2 .byte (65536:Int32) (.int (0:Int32))) (g_o2 : n0 ≤ o2) (hp0 : ¬ p3 < (0:Int32)) (hp6 : ¬ (6:Int32) < p3) (lt1 : o1 < o2) (lt2 : o0 < o2) (lt3 : bn < o2) (lt4 : br < o2) :
    MetFree l (⟨"com/example/tavola/tavola/profile/CsvReader", "copyKey", "([I[BI)V"⟩ : MethodName) (head1 (Jvm.Cond.code (⟨"com/example/tavola/tavola/profile/CsvReader", "copyKey", "([I[BI)V"⟩ : MethodName) prog_81_method_14_code 7 none :: ws) ({ frames := 1, cells := 0, slots := 0, locals := 60 } : Room)) (fun a U => a = #[(.ref o0), (.ref o1), (.ref o2), (.int p3)] ∧ Z.Warmed39 U.vm ∧ U.heap = h0) (fun _ _ _ _ _ => True) (fun _ U o U' => ∃ v L, o = .returned v ∧ rm9Q Z o0 o1 o2 p3 k2 (3:Int32) h0 n0 v U'.heap L ∧ FrameEnd U o U' L ({ frames := 1, cells := 0, slots := 0, locals := 60 } : Room).cells ({ frames := 1, cells := 0, slots := 0, locals := 60 } : Room).slots) := by
  refine MetFree.of_bodySF (plainFor_of_name pn_9) hisR ?_
  intro p e s m args below meth c s₁ Bd hml0 hP hK
  obtain ⟨rfl, hZ, hh⟩ := hP
  have hx := Bd.exec
  have hby := Bd.bytes
  have hml : c.maxLocals = 7 := hml0
  have hown : s.vm.findClass "com/example/tavola/tavola/profile/CsvReader" = some m.cls := findClass_of_methodNamed Bd.named
  have hnm := (name_of_methodNamed Bd.named Bd.method).1
  have X0 : Stand p l e ({ frames := 1, cells := 0, slots := 0, locals := 60 } : Room) s m #[(.ref o0), (.ref o1), (.ref o2), (.int p3)] below meth c s₁ [] 0 0 := Stand.of_body Bd
  have e0 : s₁.heap = h0 := by rw [← hh, Bd.state]; rfl
  have N0 := Fr.nil n0
  have pre0 : ∀ t, Steps p.tables e below (s₁.setTop (mkF m 0 #[.val (.ref o0), .val (.ref o1), .val (.ref o2), .val (.int p3), .unset, .unset, .unset] [])) t → Steps p.tables e below (s₁.setTop (entryFrame m #[(.ref o0), (.ref o1), (.ref o2), (.int p3)] 7)) t := fun t k => castTop (ef_rm9_3 m o0 o1 o2 p3) k
  obtain ⟨cl1, Ar1, -, S1, N1', -, -⟩ := id V_o1
  obtain ⟨T2, X2, e2, st2⟩ := getF X0 hx hZ hown (host := "") (Or.inl (hw _ (oG (i := 19) rfl))) Via.refl e0 F_ends (g := (mkF m 27 #[.val (.ref o0), .val (.ref o1), .val (.ref o2), .val (.int p3), .val (.int p3), .val (.int (0:Int32)), .unset] [(.ref o0)])) rfl rfl (hb hby d9_27)
  obtain ⟨cl3, Ar3, q3, S3, N3', H3, G3⟩ := id V_o1
  have hin3 : ¬ ((0:Int32) < 0 ∨ cl3.slots.size ≤ ((0:Int32)).toNatClampNeg) := inb_of S3 ⟨by decide, by decide⟩
  obtain ⟨cl4, Ar4, q4, S4, N4', H4, G4⟩ := id V_bn
  have hin4 : ¬ ((0:Int32) < 0 ∨ cl4.slots.size ≤ ((0:Int32)).toNatClampNeg) := inb_of S4 ⟨by decide, by decide⟩
  obtain ⟨cl5, Ar5, q5, S5, N5', H5, G5⟩ := id V_o1
  have hin5 : ¬ ((0:Int32) < 0 ∨ cl5.slots.size ≤ ((0:Int32)).toNatClampNeg) := inb_of S5 ⟨by decide, by decide⟩
  obtain ⟨cq6, q6, q6'⟩ := (E_o0).cell
  obtain ⟨_, _, ⟨T6, L6, k6, n6⟩, -, X6, ⟨Lc6, hQ6, l6, y6, z6⟩, st6⟩ := X2.privateBack hx (y := (⟨"com/example/tavola/tavola/profile/CsvReader", "start", "(I)I"⟩ : MethodName)) hown (mvT hZ (hw _ (oG (i := 70) rfl))) (mvT hZ (hw _ (oG (i := 71) rfl))) (own_selP hZ (hw _ (oG (i := 3) rfl)) (hw _ (oG (i := 71) rfl)) (hw _ (oG (i := 72) rfl)) (by decide)) (Cond.privateMethod_at (mvP hZ (hw _ (oG (i := 72) rfl)) (args := #[]))) (mvT hZ (hw _ (oG (i := 73) rfl))) (by decide) (backOf (W := 1) (rm8 l Z aw hw [] o0 h0 n0 Z0) hZ (hw _ (oG (i := 73) rfl)) (hw _ (oG (i := 4) rfl)) (by decide) (by decide)) (g := (mkF m 40 #[.val (.ref o0), .val (.ref o1), .val (.ref o2), .val (.int p3), .val (.int p3), .val (.int (0:Int32)), .unset] [(.int (0:Int32)), (.ref o0), (.int (0:Int32))])) rfl (by rw [hml]; rfl) (Steps.refl _) (a := o0) (by rw [e2]; exact q6) q6' (argsL := [(.int (0:Int32))]) (rest := [(.int (0:Int32))]) (lenOf pd_rm9_3_0 rfl) rfl (by show 2 * 0 + _ ≤ _; exact Nat.le_of_eq rfl) (hb hby d9_40) (fun _ _ => ⟨rfl, e2, (by decide : 0 + 0 ≤ _), (by decide : 0 + 0 ≤ _)⟩)
  dsimp only [Pt.U, Pt.locs, Pt.cells, Pt.slots] at X6 l6 y6 z6 st6 hQ6
  subst l6 y6 z6
  obtain ⟨rfl, N6q, e6q⟩ := hQ6
  have N6 := Fr.app N0 N6q
  obtain ⟨T7, X7, e7, st7⟩ := getF X6 hx hZ hown (host := "") (Or.inl (hw _ (oG (i := 17) rfl))) Via.refl e6q F_rec (g := (mkF m 47 #[.val (.ref o0), .val (.ref o1), .val (.ref o2), .val (.int p3), .val (.int p3), .val (.int (0:Int32)), .val (.int (0:Int32))] [(.ref o0)])) rfl rfl (hb hby d9_47)
  obtain ⟨cl8, Ar8, q8, S8, N8', H8, G8⟩ := id V_o1
  have hin8 : ¬ ((0:Int32) < 0 ∨ cl8.slots.size ≤ ((0:Int32)).toNatClampNeg) := inb_of S8 ⟨by decide, by decide⟩
  obtain ⟨cq9, q9, q9'⟩ := (E_o0).cell
  obtain ⟨_, _, ⟨T9, L9, k9, n9⟩, -, X9, ⟨Lc9, hQ9, l9, y9, z9⟩, st9⟩ := X7.privateBack hx (y := (⟨"com/example/tavola/tavola/profile/CsvReader", "start", "(I)I"⟩ : MethodName)) hown (mvT hZ (hw _ (oG (i := 70) rfl))) (mvT hZ (hw _ (oG (i := 71) rfl))) (own_selP hZ (hw _ (oG (i := 3) rfl)) (hw _ (oG (i := 71) rfl)) (hw _ (oG (i := 72) rfl)) (by decide)) (Cond.privateMethod_at (mvP hZ (hw _ (oG (i := 72) rfl)) (args := #[]))) (mvT hZ (hw _ (oG (i := 73) rfl))) (by decide) (backOf (W := 1) (rm8 l Z aw hw [] o0 h0 n0 Z0) hZ (hw _ (oG (i := 73) rfl)) (hw _ (oG (i := 4) rfl)) (by decide) (by decide)) (g := (mkF m 55 #[.val (.ref o0), .val (.ref o1), .val (.ref o2), .val (.int p3), .val (.int p3), .val (.int (0:Int32)), .val (.int (0:Int32))] [(.int (0:Int32)), (.ref o0), (.ref br)])) rfl (by rw [hml]; rfl) (Steps.refl _) (a := o0) (by rw [e7]; exact q9) q9' (argsL := [(.int (0:Int32))]) (rest := [(.ref br)]) (lenOf pd_rm9_3_0 rfl) rfl (by show 2 * 0 + _ ≤ _; exact Nat.le_of_eq rfl) (hb hby d9_55) (fun _ _ => ⟨rfl, e7, (by decide : 0 + 0 ≤ _), (by decide : 0 + 0 ≤ _)⟩)
  dsimp only [Pt.U, Pt.locs, Pt.cells, Pt.slots] at X9 l9 y9 z9 st9 hQ9
  subst l9 y9 z9
  obtain ⟨rfl, N9q, e9q⟩ := hQ9
  have N9 := Fr.app N6 N9q
  obtain ⟨vr10, hlr10, Vr10⟩ := id A_br
  obtain ⟨vk10, hlk10, Vk10⟩ := id A_o2
  have ps_11 : ¬ p3 < (0:Int32) ∧ ¬ (6:Int32) < p3 := ⟨hp0, hp6⟩
  have hps10 := own_nat ps_11.1 (fun z => ps_11.2 (own_ltb z (by decide)))
  obtain ⟨T10, h10, L10, X10, e10, N10, K10, Vc10, st10⟩ := cpA X9 hx hZ hown (hw _ (oG (i := 81) rfl)) (hw _ (oG (i := 84) rfl)) (hw _ (oG (i := 82) rfl)) (hw _ (oG (i := 83) rfl)) e9q (us := []) Vr10 Vk10 (Or.inl ⟨rfl, rfl⟩) (by decide) ps_11.1 (by decide) (by decide) (by show _ + 0 ≤ _; exact hps10) rfl (by show _ + 0 ≤ _; exact Nat.le_trans hps10 hlk10) N9 g_o2 (g := (mkF m 63 #[.val (.ref o0), .val (.ref o1), .val (.ref o2), .val (.int p3), .val (.int p3), .val (.int (0:Int32)), .val (.int (0:Int32))] [(.int (0:Int32)), (.int p3), (.ref o2), (.int (0:Int32)), (.ref br)])) rfl (by rw [hml]; rfl) (rest := []) rfl (hb hby d9_63) (by decide) (W := 0) (by show 2 * 0 + _ ≤ _; exact Nat.le_of_eq rfl) (by decide)
  have Ac10 : own_Arf Z h10 o2 k2 .byte (65536:Int32) (.int (0:Int32)) := ⟨_, own_cplen hlk10 hps10 rfl, Vc10⟩
  have ne_12 : o1 ≠ o2 := by omega
  have Va_13 : Arv Z h10 o1 k1 .int (3:Int32) [] (.int (0:Int32)) := (V_o1.keep K10 (ninS ne_12 nin0))
  obtain ⟨cl14, Ar14, -, S14, N14', -, -⟩ := id Va_13
  obtain ⟨vs15, hl15, cl15, Ar15, q15, S15, N15', H15, G15⟩ := id Ac10
  have ps_16 : ¬ p3 < (0:Int32) ∧ ¬ (6:Int32) < p3 := ⟨hp0, hp6⟩
  have hin15 : ¬ (p3 < 0 ∨ cl15.slots.size ≤ (p3).toNatClampNeg) := inb_of S15 (own_px ps_16.1 (fun z => ps_16.2 (own_ltb z (by decide))))
  obtain ⟨T17, h17, X17, e17, W17, st17⟩ := stB X10 hx hZ e10 Ar15 (j := p3) hin15 (g := (mkF m 25 #[.val (.ref o0), .val (.ref o1), .val (.ref o2), .val (.int p3), .val (.int (p3 + (1:Int32))), .val (.int (1:Int32)), .val (.int (0:Int32))] [(.int (0:Int32)), (.int p3), (.ref o2)])) rfl rfl (hb hby d9_25)
  have As17 : own_Arf Z h17 o2 k2 .byte (65536:Int32) (.int (0:Int32)) := own_arfW hl15 Ar15 q15 S15 N15' H15 G15 (fits_nar_byte _) W17 hin15
  have N17 := Fr.snoc X17 N10 g_o2
  have ne_18 : o0 ≠ o2 := by omega
  have Ff_19 : Fld Z h17 o0 "com/example/tavola/tavola/profile/CsvReader" "ends" "[I" (.ref bn) := ((F_ends.keep K10 (ninS ne_18 nin0)).other W17 (Or.inl ne_18))
  obtain ⟨T20, X20, e20, st20⟩ := getF X17 hx hZ hown (host := "") (Or.inl (hw _ (oG (i := 19) rfl))) Via.refl e17 Ff_19 (g := (mkF m 27 #[.val (.ref o0), .val (.ref o1), .val (.ref o2), .val (.int p3), .val (.int (p3 + (1:Int32))), .val (.int (1:Int32)), .val (.int (0:Int32))] [(.ref o0)])) rfl rfl (hb hby d9_27)
  have Va_21 : Arv Z h17 o1 k1 .int (3:Int32) [] (.int (0:Int32)) := (Va_13.other W17 ne_12)
  obtain ⟨cl22, Ar22, q22, S22, N22', H22, G22⟩ := id Va_21
  have hin22 : ¬ ((1:Int32) < 0 ∨ cl22.slots.size ≤ ((1:Int32)).toNatClampNeg) := inb_of S22 ⟨by decide, by decide⟩
  have ne_23 : bn ≠ o2 := by omega
  have Va_24 : Arv Z h17 bn kn .int (16:Int32) [] (.int (0:Int32)) := ((V_bn.keep K10 (ninS ne_23 nin0)).other W17 ne_23)
  obtain ⟨cl25, Ar25, q25, S25, N25', H25, G25⟩ := id Va_24
  have hin25 : ¬ ((0:Int32) < 0 ∨ cl25.slots.size ≤ ((0:Int32)).toNatClampNeg) := inb_of S25 ⟨by decide, by decide⟩
  obtain ⟨cl26, Ar26, q26, S26, N26', H26, G26⟩ := id Va_21
  have hin26 : ¬ ((1:Int32) < 0 ∨ cl26.slots.size ≤ ((1:Int32)).toNatClampNeg) := inb_of S26 ⟨by decide, by decide⟩
  have Zz_28 : n0 ≤ h17.size := (Nat.le_trans (Nat.le_trans Z0 K10.1) (Keep.of_wr W17).1)
  have Ee_29 : Exa Z h17 o0 "com/example/tavola/tavola/profile/CsvReader" := ((E_o0.keep K10).wr W17)
  obtain ⟨cq27, q27, q27'⟩ := (Ee_29).cell
  obtain ⟨_, _, ⟨T27, L27, k27, n27⟩, -, X27, ⟨Lc27, hQ27, l27, y27, z27⟩, st27⟩ := X20.privateBack hx (y := (⟨"com/example/tavola/tavola/profile/CsvReader", "start", "(I)I"⟩ : MethodName)) hown (mvT hZ (hw _ (oG (i := 70) rfl))) (mvT hZ (hw _ (oG (i := 71) rfl))) (own_selP hZ (hw _ (oG (i := 3) rfl)) (hw _ (oG (i := 71) rfl)) (hw _ (oG (i := 72) rfl)) (by decide)) (Cond.privateMethod_at (mvP hZ (hw _ (oG (i := 72) rfl)) (args := #[]))) (mvT hZ (hw _ (oG (i := 73) rfl))) (by decide) (backOf (W := 1) (rm8 l Z aw hw [] o0 h17 n0 Zz_28) hZ (hw _ (oG (i := 73) rfl)) (hw _ (oG (i := 4) rfl)) (by decide) (by decide)) (g := (mkF m 40 #[.val (.ref o0), .val (.ref o1), .val (.ref o2), .val (.int p3), .val (.int (p3 + (1:Int32))), .val (.int (1:Int32)), .val (.int (0:Int32))] [(.int (0:Int32)), (.ref o0), (.int (0:Int32))])) rfl (by rw [hml]; rfl) (Steps.refl _) (a := o0) (by rw [e20]; exact q27) q27' (argsL := [(.int (0:Int32))]) (rest := [(.int (0:Int32))]) (lenOf pd_rm9_3_0 rfl) rfl (by show 2 * 0 + _ ≤ _; exact Nat.le_of_eq rfl) (hb hby d9_40) (fun _ _ => ⟨rfl, e20, (by decide : 0 + 0 ≤ _), (by decide : 0 + 0 ≤ _)⟩)
  dsimp only [Pt.U, Pt.locs, Pt.cells, Pt.slots] at X27 l27 y27 z27 st27 hQ27
  subst l27 y27 z27
  obtain ⟨rfl, N27q, e27q⟩ := hQ27
  have N27 := Fr.app N17 N27q
  have Ff_30 : Fld Z h17 o0 "com/example/tavola/tavola/profile/CsvReader" "record" "[B" (.ref br) := ((F_rec.keep K10 (ninS ne_18 nin0)).other W17 (Or.inl ne_18))
  obtain ⟨T31, X31, e31, st31⟩ := getF X27 hx hZ hown (host := "") (Or.inl (hw _ (oG (i := 17) rfl))) Via.refl e27q Ff_30 (g := (mkF m 47 #[.val (.ref o0), .val (.ref o1), .val (.ref o2), .val (.int p3), .val (.int (p3 + (1:Int32))), .val (.int (1:Int32)), .val (.int (0:Int32))] [(.ref o0)])) rfl rfl (hb hby d9_47)
  obtain ⟨cl32, Ar32, q32, S32, N32', H32, G32⟩ := id Va_21
  have hin32 : ¬ ((1:Int32) < 0 ∨ cl32.slots.size ≤ ((1:Int32)).toNatClampNeg) := inb_of S32 ⟨by decide, by decide⟩
  obtain ⟨cq33, q33, q33'⟩ := (Ee_29).cell
  obtain ⟨_, _, ⟨T33, L33, k33, n33⟩, -, X33, ⟨Lc33, hQ33, l33, y33, z33⟩, st33⟩ := X31.privateBack hx (y := (⟨"com/example/tavola/tavola/profile/CsvReader", "start", "(I)I"⟩ : MethodName)) hown (mvT hZ (hw _ (oG (i := 70) rfl))) (mvT hZ (hw _ (oG (i := 71) rfl))) (own_selP hZ (hw _ (oG (i := 3) rfl)) (hw _ (oG (i := 71) rfl)) (hw _ (oG (i := 72) rfl)) (by decide)) (Cond.privateMethod_at (mvP hZ (hw _ (oG (i := 72) rfl)) (args := #[]))) (mvT hZ (hw _ (oG (i := 73) rfl))) (by decide) (backOf (W := 1) (rm8 l Z aw hw [] o0 h17 n0 Zz_28) hZ (hw _ (oG (i := 73) rfl)) (hw _ (oG (i := 4) rfl)) (by decide) (by decide)) (g := (mkF m 55 #[.val (.ref o0), .val (.ref o1), .val (.ref o2), .val (.int p3), .val (.int (p3 + (1:Int32))), .val (.int (1:Int32)), .val (.int (0:Int32))] [(.int (0:Int32)), (.ref o0), (.ref br)])) rfl (by rw [hml]; rfl) (Steps.refl _) (a := o0) (by rw [e31]; exact q33) q33' (argsL := [(.int (0:Int32))]) (rest := [(.ref br)]) (lenOf pd_rm9_3_0 rfl) rfl (by show 2 * 0 + _ ≤ _; exact Nat.le_of_eq rfl) (hb hby d9_55) (fun _ _ => ⟨rfl, e31, (by decide : 0 + 0 ≤ _), (by decide : 0 + 0 ≤ _)⟩)
  dsimp only [Pt.U, Pt.locs, Pt.cells, Pt.slots] at X33 l33 y33 z33 st33 hQ33
  subst l33 y33 z33
  obtain ⟨rfl, N33q, e33q⟩ := hQ33
  have N33 := Fr.app N27 N33q
  have ne_34 : br ≠ o2 := by omega
  have Aa_35 : own_Arf Z h17 br kr .byte (256:Int32) (.int (0:Int32)) := (own_arfO (own_arfK A_br K10 (ninS ne_34 nin0)) W17 ne_34)
  obtain ⟨vr36, hlr36, Vr36⟩ := id Aa_35
  obtain ⟨vk36, hlk36, Vk36⟩ := id As17
  have ps_37 : ¬ (p3 + (1:Int32)) < (0:Int32) ∧ ¬ (7:Int32) < (p3 + (1:Int32)) := (own_up hp0 hp6 (m := (7:Int32)) (by decide) (by decide))
  have hps36 := own_nat ps_37.1 (fun z => ps_37.2 (own_ltb z (by decide)))
  obtain ⟨T36, h36, L36, X36, e36, N36, K36, Vc36, st36⟩ := cpA X33 hx hZ hown (hw _ (oG (i := 81) rfl)) (hw _ (oG (i := 84) rfl)) (hw _ (oG (i := 82) rfl)) (hw _ (oG (i := 83) rfl)) e33q (us := []) Vr36 Vk36 (Or.inl ⟨rfl, rfl⟩) (by decide) ps_37.1 (by decide) (by decide) (by show _ + 0 ≤ _; exact hps36) rfl (by show _ + 0 ≤ _; exact Nat.le_trans hps36 hlk36) N33 g_o2 (g := (mkF m 63 #[.val (.ref o0), .val (.ref o1), .val (.ref o2), .val (.int p3), .val (.int (p3 + (1:Int32))), .val (.int (1:Int32)), .val (.int (0:Int32))] [(.int (0:Int32)), (.int (p3 + (1:Int32))), (.ref o2), (.int (0:Int32)), (.ref br)])) rfl (by rw [hml]; rfl) (rest := []) rfl (hb hby d9_63) (by decide) (W := 0) (by show 2 * 0 + _ ≤ _; exact Nat.le_of_eq rfl) (by decide)
  have Ac36 : own_Arf Z h36 o2 k2 .byte (65536:Int32) (.int (0:Int32)) := ⟨_, own_cplen hlk36 hps36 rfl, Vc36⟩
  have Va_38 : Arv Z h36 o1 k1 .int (3:Int32) [] (.int (0:Int32)) := (Va_21.keep K36 (ninS ne_12 nin0))
  obtain ⟨cl39, Ar39, -, S39, N39', -, -⟩ := id Va_38
  obtain ⟨vs40, hl40, cl40, Ar40, q40, S40, N40', H40, G40⟩ := id Ac36
  have ps_41 : ¬ (p3 + (1:Int32)) < (0:Int32) ∧ ¬ (7:Int32) < (p3 + (1:Int32)) := (own_up hp0 hp6 (m := (7:Int32)) (by decide) (by decide))
  have hin40 : ¬ ((p3 + (1:Int32)) < 0 ∨ cl40.slots.size ≤ ((p3 + (1:Int32))).toNatClampNeg) := inb_of S40 (own_px ps_41.1 (fun z => ps_41.2 (own_ltb z (by decide))))
  obtain ⟨T42, h42, X42, e42, W42, st42⟩ := stB X36 hx hZ e36 Ar40 (j := (p3 + (1:Int32))) hin40 (g := (mkF m 25 #[.val (.ref o0), .val (.ref o1), .val (.ref o2), .val (.int p3), .val (.int ((p3 + (1:Int32)) + (1:Int32))), .val (.int (2:Int32)), .val (.int (0:Int32))] [(.int (0:Int32)), (.int (p3 + (1:Int32))), (.ref o2)])) rfl rfl (hb hby d9_25)
  have As42 : own_Arf Z h42 o2 k2 .byte (65536:Int32) (.int (0:Int32)) := own_arfW hl40 Ar40 q40 S40 N40' H40 G40 (fits_nar_byte _) W42 hin40
  have N42 := Fr.snoc X42 N36 g_o2
  have Ff_43 : Fld Z h42 o0 "com/example/tavola/tavola/profile/CsvReader" "ends" "[I" (.ref bn) := ((Ff_19.keep K36 (ninS ne_18 nin0)).other W42 (Or.inl ne_18))
  obtain ⟨T44, X44, e44, st44⟩ := getF X42 hx hZ hown (host := "") (Or.inl (hw _ (oG (i := 19) rfl))) Via.refl e42 Ff_43 (g := (mkF m 27 #[.val (.ref o0), .val (.ref o1), .val (.ref o2), .val (.int p3), .val (.int ((p3 + (1:Int32)) + (1:Int32))), .val (.int (2:Int32)), .val (.int (0:Int32))] [(.ref o0)])) rfl rfl (hb hby d9_27)
  have Va_45 : Arv Z h42 o1 k1 .int (3:Int32) [] (.int (0:Int32)) := (Va_38.other W42 ne_12)
  obtain ⟨cl46, Ar46, q46, S46, N46', H46, G46⟩ := id Va_45
  have hin46 : ¬ ((2:Int32) < 0 ∨ cl46.slots.size ≤ ((2:Int32)).toNatClampNeg) := inb_of S46 ⟨by decide, by decide⟩
  have Va_47 : Arv Z h42 bn kn .int (16:Int32) [] (.int (0:Int32)) := ((Va_24.keep K36 (ninS ne_23 nin0)).other W42 ne_23)
  obtain ⟨cl48, Ar48, q48, S48, N48', H48, G48⟩ := id Va_47
  have hin48 : ¬ ((0:Int32) < 0 ∨ cl48.slots.size ≤ ((0:Int32)).toNatClampNeg) := inb_of S48 ⟨by decide, by decide⟩
  obtain ⟨cl49, Ar49, q49, S49, N49', H49, G49⟩ := id Va_45
  have hin49 : ¬ ((2:Int32) < 0 ∨ cl49.slots.size ≤ ((2:Int32)).toNatClampNeg) := inb_of S49 ⟨by decide, by decide⟩
  have Zz_51 : n0 ≤ h42.size := (Nat.le_trans (Nat.le_trans Zz_28 K36.1) (Keep.of_wr W42).1)
  have Ee_52 : Exa Z h42 o0 "com/example/tavola/tavola/profile/CsvReader" := ((Ee_29.keep K36).wr W42)
  obtain ⟨cq50, q50, q50'⟩ := (Ee_52).cell
  obtain ⟨_, _, ⟨T50, L50, k50, n50⟩, -, X50, ⟨Lc50, hQ50, l50, y50, z50⟩, st50⟩ := X44.privateBack hx (y := (⟨"com/example/tavola/tavola/profile/CsvReader", "start", "(I)I"⟩ : MethodName)) hown (mvT hZ (hw _ (oG (i := 70) rfl))) (mvT hZ (hw _ (oG (i := 71) rfl))) (own_selP hZ (hw _ (oG (i := 3) rfl)) (hw _ (oG (i := 71) rfl)) (hw _ (oG (i := 72) rfl)) (by decide)) (Cond.privateMethod_at (mvP hZ (hw _ (oG (i := 72) rfl)) (args := #[]))) (mvT hZ (hw _ (oG (i := 73) rfl))) (by decide) (backOf (W := 1) (rm8 l Z aw hw [] o0 h42 n0 Zz_51) hZ (hw _ (oG (i := 73) rfl)) (hw _ (oG (i := 4) rfl)) (by decide) (by decide)) (g := (mkF m 40 #[.val (.ref o0), .val (.ref o1), .val (.ref o2), .val (.int p3), .val (.int ((p3 + (1:Int32)) + (1:Int32))), .val (.int (2:Int32)), .val (.int (0:Int32))] [(.int (0:Int32)), (.ref o0), (.int (0:Int32))])) rfl (by rw [hml]; rfl) (Steps.refl _) (a := o0) (by rw [e44]; exact q50) q50' (argsL := [(.int (0:Int32))]) (rest := [(.int (0:Int32))]) (lenOf pd_rm9_3_0 rfl) rfl (by show 2 * 0 + _ ≤ _; exact Nat.le_of_eq rfl) (hb hby d9_40) (fun _ _ => ⟨rfl, e44, (by decide : 0 + 0 ≤ _), (by decide : 0 + 0 ≤ _)⟩)
  dsimp only [Pt.U, Pt.locs, Pt.cells, Pt.slots] at X50 l50 y50 z50 st50 hQ50
  subst l50 y50 z50
  obtain ⟨rfl, N50q, e50q⟩ := hQ50
  have N50 := Fr.app N42 N50q
  have Ff_53 : Fld Z h42 o0 "com/example/tavola/tavola/profile/CsvReader" "record" "[B" (.ref br) := ((Ff_30.keep K36 (ninS ne_18 nin0)).other W42 (Or.inl ne_18))
  obtain ⟨T54, X54, e54, st54⟩ := getF X50 hx hZ hown (host := "") (Or.inl (hw _ (oG (i := 17) rfl))) Via.refl e50q Ff_53 (g := (mkF m 47 #[.val (.ref o0), .val (.ref o1), .val (.ref o2), .val (.int p3), .val (.int ((p3 + (1:Int32)) + (1:Int32))), .val (.int (2:Int32)), .val (.int (0:Int32))] [(.ref o0)])) rfl rfl (hb hby d9_47)
  obtain ⟨cl55, Ar55, q55, S55, N55', H55, G55⟩ := id Va_45
  have hin55 : ¬ ((2:Int32) < 0 ∨ cl55.slots.size ≤ ((2:Int32)).toNatClampNeg) := inb_of S55 ⟨by decide, by decide⟩
  obtain ⟨cq56, q56, q56'⟩ := (Ee_52).cell
  obtain ⟨_, _, ⟨T56, L56, k56, n56⟩, -, X56, ⟨Lc56, hQ56, l56, y56, z56⟩, st56⟩ := X54.privateBack hx (y := (⟨"com/example/tavola/tavola/profile/CsvReader", "start", "(I)I"⟩ : MethodName)) hown (mvT hZ (hw _ (oG (i := 70) rfl))) (mvT hZ (hw _ (oG (i := 71) rfl))) (own_selP hZ (hw _ (oG (i := 3) rfl)) (hw _ (oG (i := 71) rfl)) (hw _ (oG (i := 72) rfl)) (by decide)) (Cond.privateMethod_at (mvP hZ (hw _ (oG (i := 72) rfl)) (args := #[]))) (mvT hZ (hw _ (oG (i := 73) rfl))) (by decide) (backOf (W := 1) (rm8 l Z aw hw [] o0 h42 n0 Zz_51) hZ (hw _ (oG (i := 73) rfl)) (hw _ (oG (i := 4) rfl)) (by decide) (by decide)) (g := (mkF m 55 #[.val (.ref o0), .val (.ref o1), .val (.ref o2), .val (.int p3), .val (.int ((p3 + (1:Int32)) + (1:Int32))), .val (.int (2:Int32)), .val (.int (0:Int32))] [(.int (0:Int32)), (.ref o0), (.ref br)])) rfl (by rw [hml]; rfl) (Steps.refl _) (a := o0) (by rw [e54]; exact q56) q56' (argsL := [(.int (0:Int32))]) (rest := [(.ref br)]) (lenOf pd_rm9_3_0 rfl) rfl (by show 2 * 0 + _ ≤ _; exact Nat.le_of_eq rfl) (hb hby d9_55) (fun _ _ => ⟨rfl, e54, (by decide : 0 + 0 ≤ _), (by decide : 0 + 0 ≤ _)⟩)
  dsimp only [Pt.U, Pt.locs, Pt.cells, Pt.slots] at X56 l56 y56 z56 st56 hQ56
  subst l56 y56 z56
  obtain ⟨rfl, N56q, e56q⟩ := hQ56
  have N56 := Fr.app N50 N56q
  have Aa_57 : own_Arf Z h42 br kr .byte (256:Int32) (.int (0:Int32)) := (own_arfO (own_arfK Aa_35 K36 (ninS ne_34 nin0)) W42 ne_34)
  obtain ⟨vr58, hlr58, Vr58⟩ := id Aa_57
  obtain ⟨vk58, hlk58, Vk58⟩ := id As42
  have ps_59 : ¬ ((p3 + (1:Int32)) + (1:Int32)) < (0:Int32) ∧ ¬ (8:Int32) < ((p3 + (1:Int32)) + (1:Int32)) := (own_up (own_up hp0 hp6 (m := (7:Int32)) (by decide) (by decide)).1 (own_up hp0 hp6 (m := (7:Int32)) (by decide) (by decide)).2 (m := (8:Int32)) (by decide) (by decide))
  have hps58 := own_nat ps_59.1 (fun z => ps_59.2 (own_ltb z (by decide)))
  obtain ⟨T58, h58, L58, X58, e58, N58, K58, Vc58, st58⟩ := cpA X56 hx hZ hown (hw _ (oG (i := 81) rfl)) (hw _ (oG (i := 84) rfl)) (hw _ (oG (i := 82) rfl)) (hw _ (oG (i := 83) rfl)) e56q (us := []) Vr58 Vk58 (Or.inl ⟨rfl, rfl⟩) (by decide) ps_59.1 (by decide) (by decide) (by show _ + 0 ≤ _; exact hps58) rfl (by show _ + 0 ≤ _; exact Nat.le_trans hps58 hlk58) N56 g_o2 (g := (mkF m 63 #[.val (.ref o0), .val (.ref o1), .val (.ref o2), .val (.int p3), .val (.int ((p3 + (1:Int32)) + (1:Int32))), .val (.int (2:Int32)), .val (.int (0:Int32))] [(.int (0:Int32)), (.int ((p3 + (1:Int32)) + (1:Int32))), (.ref o2), (.int (0:Int32)), (.ref br)])) rfl (by rw [hml]; rfl) (rest := []) rfl (hb hby d9_63) (by decide) (W := 0) (by show 2 * 0 + _ ≤ _; exact Nat.le_of_eq rfl) (by decide)
  have Ac58 : own_Arf Z h58 o2 k2 .byte (65536:Int32) (.int (0:Int32)) := ⟨_, own_cplen hlk58 hps58 rfl, Vc58⟩
  have Va_60 : Arv Z h58 o1 k1 .int (3:Int32) [] (.int (0:Int32)) := (Va_45.keep K58 (ninS ne_12 nin0))
  obtain ⟨cl61, Ar61, -, S61, N61', -, -⟩ := id Va_60
  have Kk_62 : Keep h0 h58 [o2] := ((((((Keep.refl h0 [o2]).trans K10 (allS (Or.inl (oG (i := 0) rfl)) all0)).wr W17 (Or.inl (oG (i := 0) rfl))).trans K36 (allS (Or.inl (oG (i := 0) rfl)) all0)).wr W42 (Or.inl (oG (i := 0) rfl))).trans K58 (allS (Or.inl (oG (i := 0) rfl)) all0))
  obtain ⟨fs, hr, hrun, hended, hW, hsame⟩ := X58.leave (v := none) (fun _ => rfl)
  refine ⟨_, _, pre0 _ ?_, hrun, hended, _, _, rfl, ?_, ⟨_, rfl⟩, hW, hsame.mono (by decide) (by decide)⟩
  · show Steps p.tables e below (s₁.setTop (mkF m 0 #[.val (.ref o0), .val (.ref o1), .val (.ref o2), .val (.int p3), .unset, .unset, .unset] [])) _
    refine XS.iloadN X0.here hx rfl (hb hby d9_0) rfl ?_
    refine XS.istore X0.here hx rfl (hb hby d9_1) rfl (l' := #[.val (.ref o0), .val (.ref o1), .val (.ref o2), .val (.int p3), .val (.int p3), .unset, .unset]) rfl ?_
    refine XS.iconst X0.here hx rfl (hb hby d9_3) ?_
    refine XS.istore X0.here hx rfl (hb hby d9_4) rfl (l' := #[.val (.ref o0), .val (.ref o1), .val (.ref o2), .val (.int p3), .val (.int p3), .val (.int (0:Int32)), .unset]) rfl ?_
    refine XS.iload X0.here hx rfl (hb hby d9_6) rfl ?_
    refine XS.aloadN X0.here hx rfl (hb hby d9_8) rfl rfl ?_
    show Steps p.tables e below (s₁.setTop (mkF m 9 #[.val (.ref o0), .val (.ref o1), .val (.ref o2), .val (.int p3), .val (.int p3), .val (.int (0:Int32)), .unset] [(.ref o1), (.int (0:Int32))])) _
    refine X0.arraylength hx (by rw [e0]; exact Ar1.1) (State.isArrayOf_alike hZ.alike Ar1.2.1) (g := (mkF m 9 #[.val (.ref o0), .val (.ref o1), .val (.ref o2), .val (.int p3), .val (.int p3), .val (.int (0:Int32)), .unset] [(.ref o1), (.int (0:Int32))])) rfl rfl (hb hby d9_9) _ ?_
    rw [len_of S1 N1']
    show Steps p.tables e below (s₁.setTop (mkF m 10 #[.val (.ref o0), .val (.ref o1), .val (.ref o2), .val (.int p3), .val (.int p3), .val (.int (0:Int32)), .unset] [(.int (3:Int32)), (.int (0:Int32))])) _
    refine XS.icmpNo X0.here hx rfl (hb hby d9_10) rfl (tlt ((by decide) : (0:Int32) < (3:Int32))).2.1 ?_
    refine XS.iload X0.here hx rfl (hb hby d9_13) rfl ?_
    refine XS.ifYes X0.here hx rfl (pc0 := 15) (pc' := 26) rfl (hb hby d9_15) rfl ((if0 _ _).trans (flt ((by decide) : ¬ ((0:Int32) < (0:Int32)))).2.2.2) (by decide) (by decide) ?_
    refine XS.aloadN X0.here hx rfl (hb hby d9_26) rfl rfl ?_
    show Steps p.tables e below (s₁.setTop (mkF m 27 #[.val (.ref o0), .val (.ref o1), .val (.ref o2), .val (.int p3), .val (.int p3), .val (.int (0:Int32)), .unset] [(.ref o0)])) _
    refine st2 _ ?_
    show Steps p.tables e below (T2.setTop (mkF m 30 #[.val (.ref o0), .val (.ref o1), .val (.ref o2), .val (.int p3), .val (.int p3), .val (.int (0:Int32)), .unset] [(.ref bn)])) _
    refine XS.aloadN X2.here hx rfl (hb hby d9_30) rfl rfl ?_
    refine XS.iload X2.here hx rfl (hb hby d9_31) rfl ?_
    show Steps p.tables e below (T2.setTop (mkF m 33 #[.val (.ref o0), .val (.ref o1), .val (.ref o2), .val (.int p3), .val (.int p3), .val (.int (0:Int32)), .unset] [(.int (0:Int32)), (.ref o1), (.ref bn)])) _
    refine X2.iaload hx (j := (0:Int32)) (v := (.int (0:Int32))) (by rw [e2]; exact Ar3.1) (State.isArrayOf_alike hZ.alike Ar3.2.1) Ar3.2.2 hin3 (H3.at hin3 rfl) (g := (mkF m 33 #[.val (.ref o0), .val (.ref o1), .val (.ref o2), .val (.int p3), .val (.int p3), .val (.int (0:Int32)), .unset] [(.int (0:Int32)), (.ref o1), (.ref bn)])) rfl rfl (hb hby d9_33) _ ?_
    show Steps p.tables e below (T2.setTop (mkF m 34 #[.val (.ref o0), .val (.ref o1), .val (.ref o2), .val (.int p3), .val (.int p3), .val (.int (0:Int32)), .unset] [(.int (0:Int32)), (.ref bn)])) _
    refine X2.iaload hx (j := (0:Int32)) (v := (.int (0:Int32))) (by rw [e2]; exact Ar4.1) (State.isArrayOf_alike hZ.alike Ar4.2.1) Ar4.2.2 hin4 (H4.at hin4 rfl) (g := (mkF m 34 #[.val (.ref o0), .val (.ref o1), .val (.ref o2), .val (.int p3), .val (.int p3), .val (.int (0:Int32)), .unset] [(.int (0:Int32)), (.ref bn)])) rfl rfl (hb hby d9_34) _ ?_
    show Steps p.tables e below (T2.setTop (mkF m 35 #[.val (.ref o0), .val (.ref o1), .val (.ref o2), .val (.int p3), .val (.int p3), .val (.int (0:Int32)), .unset] [(.int (0:Int32))])) _
    refine XS.aloadN X2.here hx rfl (hb hby d9_35) rfl rfl ?_
    refine XS.aloadN X2.here hx rfl (hb hby d9_36) rfl rfl ?_
    refine XS.iload X2.here hx rfl (hb hby d9_37) rfl ?_
    show Steps p.tables e below (T2.setTop (mkF m 39 #[.val (.ref o0), .val (.ref o1), .val (.ref o2), .val (.int p3), .val (.int p3), .val (.int (0:Int32)), .unset] [(.int (0:Int32)), (.ref o1), (.ref o0), (.int (0:Int32))])) _
    refine X2.iaload hx (j := (0:Int32)) (v := (.int (0:Int32))) (by rw [e2]; exact Ar5.1) (State.isArrayOf_alike hZ.alike Ar5.2.1) Ar5.2.2 hin5 (H5.at hin5 rfl) (g := (mkF m 39 #[.val (.ref o0), .val (.ref o1), .val (.ref o2), .val (.int p3), .val (.int p3), .val (.int (0:Int32)), .unset] [(.int (0:Int32)), (.ref o1), (.ref o0), (.int (0:Int32))])) rfl rfl (hb hby d9_39) _ ?_
    show Steps p.tables e below (T2.setTop (mkF m 40 #[.val (.ref o0), .val (.ref o1), .val (.ref o2), .val (.int p3), .val (.int p3), .val (.int (0:Int32)), .unset] [(.int (0:Int32)), (.ref o0), (.int (0:Int32))])) _
    refine st6.trans ?_
    show Steps p.tables e below (T6.setTop (mkF m 43 #[.val (.ref o0), .val (.ref o1), .val (.ref o2), .val (.int p3), .val (.int p3), .val (.int (0:Int32)), .unset] [(.int (0:Int32)), (.int (0:Int32))])) _
    refine XS.isub X6.here hx rfl (hb hby d9_43) rfl ?_
    rw [show ((0:Int32) - (0:Int32)) = (0:Int32) from by decide]
    show Steps p.tables e below (T6.setTop (mkF m 44 #[.val (.ref o0), .val (.ref o1), .val (.ref o2), .val (.int p3), .val (.int p3), .val (.int (0:Int32)), .unset] [(.int (0:Int32))])) _
    refine XS.istore X6.here hx rfl (hb hby d9_44) rfl (l' := #[.val (.ref o0), .val (.ref o1), .val (.ref o2), .val (.int p3), .val (.int p3), .val (.int (0:Int32)), .val (.int (0:Int32))]) rfl ?_
    refine XS.aloadN X6.here hx rfl (hb hby d9_46) rfl rfl ?_
    show Steps p.tables e below (T6.setTop (mkF m 47 #[.val (.ref o0), .val (.ref o1), .val (.ref o2), .val (.int p3), .val (.int p3), .val (.int (0:Int32)), .val (.int (0:Int32))] [(.ref o0)])) _
    refine st7 _ ?_
    show Steps p.tables e below (T7.setTop (mkF m 50 #[.val (.ref o0), .val (.ref o1), .val (.ref o2), .val (.int p3), .val (.int p3), .val (.int (0:Int32)), .val (.int (0:Int32))] [(.ref br)])) _
    refine XS.aloadN X7.here hx rfl (hb hby d9_50) rfl rfl ?_
    refine XS.aloadN X7.here hx rfl (hb hby d9_51) rfl rfl ?_
    refine XS.iload X7.here hx rfl (hb hby d9_52) rfl ?_
    show Steps p.tables e below (T7.setTop (mkF m 54 #[.val (.ref o0), .val (.ref o1), .val (.ref o2), .val (.int p3), .val (.int p3), .val (.int (0:Int32)), .val (.int (0:Int32))] [(.int (0:Int32)), (.ref o1), (.ref o0), (.ref br)])) _
    refine X7.iaload hx (j := (0:Int32)) (v := (.int (0:Int32))) (by rw [e7]; exact Ar8.1) (State.isArrayOf_alike hZ.alike Ar8.2.1) Ar8.2.2 hin8 (H8.at hin8 rfl) (g := (mkF m 54 #[.val (.ref o0), .val (.ref o1), .val (.ref o2), .val (.int p3), .val (.int p3), .val (.int (0:Int32)), .val (.int (0:Int32))] [(.int (0:Int32)), (.ref o1), (.ref o0), (.ref br)])) rfl rfl (hb hby d9_54) _ ?_
    show Steps p.tables e below (T7.setTop (mkF m 55 #[.val (.ref o0), .val (.ref o1), .val (.ref o2), .val (.int p3), .val (.int p3), .val (.int (0:Int32)), .val (.int (0:Int32))] [(.int (0:Int32)), (.ref o0), (.ref br)])) _
    refine st9.trans ?_
    show Steps p.tables e below (T9.setTop (mkF m 58 #[.val (.ref o0), .val (.ref o1), .val (.ref o2), .val (.int p3), .val (.int p3), .val (.int (0:Int32)), .val (.int (0:Int32))] [(.int (0:Int32)), (.ref br)])) _
    refine XS.aloadN X9.here hx rfl (hb hby d9_58) rfl rfl ?_
    refine XS.iload X9.here hx rfl (hb hby d9_59) rfl ?_
    refine XS.iload X9.here hx rfl (hb hby d9_61) rfl ?_
    show Steps p.tables e below (T9.setTop (mkF m 63 #[.val (.ref o0), .val (.ref o1), .val (.ref o2), .val (.int p3), .val (.int p3), .val (.int (0:Int32)), .val (.int (0:Int32))] [(.int (0:Int32)), (.int p3), (.ref o2), (.int (0:Int32)), (.ref br)])) _
    refine st10 _ ?_
    show Steps p.tables e below (T10.setTop (mkF m 66 #[.val (.ref o0), .val (.ref o1), .val (.ref o2), .val (.int p3), .val (.int p3), .val (.int (0:Int32)), .val (.int (0:Int32))] [])) _
    refine XS.iload X10.here hx rfl (hb hby d9_66) rfl ?_
    refine XS.iload X10.here hx rfl (hb hby d9_68) rfl ?_
    show Steps p.tables e below (T10.setTop (mkF m 70 #[.val (.ref o0), .val (.ref o1), .val (.ref o2), .val (.int p3), .val (.int p3), .val (.int (0:Int32)), .val (.int (0:Int32))] [(.int (0:Int32)), (.int p3)])) _
    refine XS.iadd X10.here hx rfl (hb hby d9_70) rfl ?_
    rw [Int32.add_zero]
    show Steps p.tables e below (T10.setTop (mkF m 71 #[.val (.ref o0), .val (.ref o1), .val (.ref o2), .val (.int p3), .val (.int p3), .val (.int (0:Int32)), .val (.int (0:Int32))] [(.int p3)])) _
    refine XS.istore X10.here hx rfl (hb hby d9_71) rfl (l' := #[.val (.ref o0), .val (.ref o1), .val (.ref o2), .val (.int p3), .val (.int p3), .val (.int (0:Int32)), .val (.int (0:Int32))]) rfl ?_
    refine XS.iinc X10.here hx rfl (hb hby d9_73) rfl (l' := #[.val (.ref o0), .val (.ref o1), .val (.ref o2), .val (.int p3), .val (.int p3), .val (.int (1:Int32)), .val (.int (0:Int32))]) rfl ?_
    refine XS.goto X10.here hx rfl (pc0 := 76) (pc' := 6) rfl (hb hby d9_76) (by decide) (by decide) ?_
    refine XS.iload X10.here hx rfl (hb hby d9_6) rfl ?_
    refine XS.aloadN X10.here hx rfl (hb hby d9_8) rfl rfl ?_
    show Steps p.tables e below (T10.setTop (mkF m 9 #[.val (.ref o0), .val (.ref o1), .val (.ref o2), .val (.int p3), .val (.int p3), .val (.int (1:Int32)), .val (.int (0:Int32))] [(.ref o1), (.int (1:Int32))])) _
    refine X10.arraylength hx (by rw [e10]; exact Ar14.1) (State.isArrayOf_alike hZ.alike Ar14.2.1) (g := (mkF m 9 #[.val (.ref o0), .val (.ref o1), .val (.ref o2), .val (.int p3), .val (.int p3), .val (.int (1:Int32)), .val (.int (0:Int32))] [(.ref o1), (.int (1:Int32))])) rfl rfl (hb hby d9_9) _ ?_
    rw [len_of S14 N14']
    show Steps p.tables e below (T10.setTop (mkF m 10 #[.val (.ref o0), .val (.ref o1), .val (.ref o2), .val (.int p3), .val (.int p3), .val (.int (1:Int32)), .val (.int (0:Int32))] [(.int (3:Int32)), (.int (1:Int32))])) _
    refine XS.icmpNo X10.here hx rfl (hb hby d9_10) rfl (tlt ((by decide) : (1:Int32) < (3:Int32))).2.1 ?_
    refine XS.iload X10.here hx rfl (hb hby d9_13) rfl ?_
    refine XS.ifNo X10.here hx rfl (hb hby d9_15) rfl ((if0 _ _).trans (tlt ((by decide) : (0:Int32) < (1:Int32))).2.2.2) ?_
    refine XS.aloadN X10.here hx rfl (hb hby d9_18) rfl rfl ?_
    refine XS.iload X10.here hx rfl (hb hby d9_19) rfl ?_
    refine XS.iinc X10.here hx rfl (hb hby d9_21) rfl (l' := #[.val (.ref o0), .val (.ref o1), .val (.ref o2), .val (.int p3), .val (.int (p3 + (1:Int32))), .val (.int (1:Int32)), .val (.int (0:Int32))]) rfl ?_
    refine XS.iconst X10.here hx rfl (hb hby d9_24) ?_
    show Steps p.tables e below (T10.setTop (mkF m 25 #[.val (.ref o0), .val (.ref o1), .val (.ref o2), .val (.int p3), .val (.int (p3 + (1:Int32))), .val (.int (1:Int32)), .val (.int (0:Int32))] [(.int (0:Int32)), (.int p3), (.ref o2)])) _
    refine st17 _ ?_
    show Steps p.tables e below (T17.setTop (mkF m 26 #[.val (.ref o0), .val (.ref o1), .val (.ref o2), .val (.int p3), .val (.int (p3 + (1:Int32))), .val (.int (1:Int32)), .val (.int (0:Int32))] [])) _
    refine XS.aloadN X17.here hx rfl (hb hby d9_26) rfl rfl ?_
    show Steps p.tables e below (T17.setTop (mkF m 27 #[.val (.ref o0), .val (.ref o1), .val (.ref o2), .val (.int p3), .val (.int (p3 + (1:Int32))), .val (.int (1:Int32)), .val (.int (0:Int32))] [(.ref o0)])) _
    refine st20 _ ?_
    show Steps p.tables e below (T20.setTop (mkF m 30 #[.val (.ref o0), .val (.ref o1), .val (.ref o2), .val (.int p3), .val (.int (p3 + (1:Int32))), .val (.int (1:Int32)), .val (.int (0:Int32))] [(.ref bn)])) _
    refine XS.aloadN X20.here hx rfl (hb hby d9_30) rfl rfl ?_
    refine XS.iload X20.here hx rfl (hb hby d9_31) rfl ?_
    show Steps p.tables e below (T20.setTop (mkF m 33 #[.val (.ref o0), .val (.ref o1), .val (.ref o2), .val (.int p3), .val (.int (p3 + (1:Int32))), .val (.int (1:Int32)), .val (.int (0:Int32))] [(.int (1:Int32)), (.ref o1), (.ref bn)])) _
    refine X20.iaload hx (j := (1:Int32)) (v := (.int (0:Int32))) (by rw [e20]; exact Ar22.1) (State.isArrayOf_alike hZ.alike Ar22.2.1) Ar22.2.2 hin22 (H22.at hin22 rfl) (g := (mkF m 33 #[.val (.ref o0), .val (.ref o1), .val (.ref o2), .val (.int p3), .val (.int (p3 + (1:Int32))), .val (.int (1:Int32)), .val (.int (0:Int32))] [(.int (1:Int32)), (.ref o1), (.ref bn)])) rfl rfl (hb hby d9_33) _ ?_
    show Steps p.tables e below (T20.setTop (mkF m 34 #[.val (.ref o0), .val (.ref o1), .val (.ref o2), .val (.int p3), .val (.int (p3 + (1:Int32))), .val (.int (1:Int32)), .val (.int (0:Int32))] [(.int (0:Int32)), (.ref bn)])) _
    refine X20.iaload hx (j := (0:Int32)) (v := (.int (0:Int32))) (by rw [e20]; exact Ar25.1) (State.isArrayOf_alike hZ.alike Ar25.2.1) Ar25.2.2 hin25 (H25.at hin25 rfl) (g := (mkF m 34 #[.val (.ref o0), .val (.ref o1), .val (.ref o2), .val (.int p3), .val (.int (p3 + (1:Int32))), .val (.int (1:Int32)), .val (.int (0:Int32))] [(.int (0:Int32)), (.ref bn)])) rfl rfl (hb hby d9_34) _ ?_
    show Steps p.tables e below (T20.setTop (mkF m 35 #[.val (.ref o0), .val (.ref o1), .val (.ref o2), .val (.int p3), .val (.int (p3 + (1:Int32))), .val (.int (1:Int32)), .val (.int (0:Int32))] [(.int (0:Int32))])) _
    refine XS.aloadN X20.here hx rfl (hb hby d9_35) rfl rfl ?_
    refine XS.aloadN X20.here hx rfl (hb hby d9_36) rfl rfl ?_
    refine XS.iload X20.here hx rfl (hb hby d9_37) rfl ?_
    show Steps p.tables e below (T20.setTop (mkF m 39 #[.val (.ref o0), .val (.ref o1), .val (.ref o2), .val (.int p3), .val (.int (p3 + (1:Int32))), .val (.int (1:Int32)), .val (.int (0:Int32))] [(.int (1:Int32)), (.ref o1), (.ref o0), (.int (0:Int32))])) _
    refine X20.iaload hx (j := (1:Int32)) (v := (.int (0:Int32))) (by rw [e20]; exact Ar26.1) (State.isArrayOf_alike hZ.alike Ar26.2.1) Ar26.2.2 hin26 (H26.at hin26 rfl) (g := (mkF m 39 #[.val (.ref o0), .val (.ref o1), .val (.ref o2), .val (.int p3), .val (.int (p3 + (1:Int32))), .val (.int (1:Int32)), .val (.int (0:Int32))] [(.int (1:Int32)), (.ref o1), (.ref o0), (.int (0:Int32))])) rfl rfl (hb hby d9_39) _ ?_
    show Steps p.tables e below (T20.setTop (mkF m 40 #[.val (.ref o0), .val (.ref o1), .val (.ref o2), .val (.int p3), .val (.int (p3 + (1:Int32))), .val (.int (1:Int32)), .val (.int (0:Int32))] [(.int (0:Int32)), (.ref o0), (.int (0:Int32))])) _
    refine st27.trans ?_
    show Steps p.tables e below (T27.setTop (mkF m 43 #[.val (.ref o0), .val (.ref o1), .val (.ref o2), .val (.int p3), .val (.int (p3 + (1:Int32))), .val (.int (1:Int32)), .val (.int (0:Int32))] [(.int (0:Int32)), (.int (0:Int32))])) _
    refine XS.isub X27.here hx rfl (hb hby d9_43) rfl ?_
    rw [show ((0:Int32) - (0:Int32)) = (0:Int32) from by decide]
    show Steps p.tables e below (T27.setTop (mkF m 44 #[.val (.ref o0), .val (.ref o1), .val (.ref o2), .val (.int p3), .val (.int (p3 + (1:Int32))), .val (.int (1:Int32)), .val (.int (0:Int32))] [(.int (0:Int32))])) _
    refine XS.istore X27.here hx rfl (hb hby d9_44) rfl (l' := #[.val (.ref o0), .val (.ref o1), .val (.ref o2), .val (.int p3), .val (.int (p3 + (1:Int32))), .val (.int (1:Int32)), .val (.int (0:Int32))]) rfl ?_
    refine XS.aloadN X27.here hx rfl (hb hby d9_46) rfl rfl ?_
    show Steps p.tables e below (T27.setTop (mkF m 47 #[.val (.ref o0), .val (.ref o1), .val (.ref o2), .val (.int p3), .val (.int (p3 + (1:Int32))), .val (.int (1:Int32)), .val (.int (0:Int32))] [(.ref o0)])) _
    refine st31 _ ?_
    show Steps p.tables e below (T31.setTop (mkF m 50 #[.val (.ref o0), .val (.ref o1), .val (.ref o2), .val (.int p3), .val (.int (p3 + (1:Int32))), .val (.int (1:Int32)), .val (.int (0:Int32))] [(.ref br)])) _
    refine XS.aloadN X31.here hx rfl (hb hby d9_50) rfl rfl ?_
    refine XS.aloadN X31.here hx rfl (hb hby d9_51) rfl rfl ?_
    refine XS.iload X31.here hx rfl (hb hby d9_52) rfl ?_
    show Steps p.tables e below (T31.setTop (mkF m 54 #[.val (.ref o0), .val (.ref o1), .val (.ref o2), .val (.int p3), .val (.int (p3 + (1:Int32))), .val (.int (1:Int32)), .val (.int (0:Int32))] [(.int (1:Int32)), (.ref o1), (.ref o0), (.ref br)])) _
    refine X31.iaload hx (j := (1:Int32)) (v := (.int (0:Int32))) (by rw [e31]; exact Ar32.1) (State.isArrayOf_alike hZ.alike Ar32.2.1) Ar32.2.2 hin32 (H32.at hin32 rfl) (g := (mkF m 54 #[.val (.ref o0), .val (.ref o1), .val (.ref o2), .val (.int p3), .val (.int (p3 + (1:Int32))), .val (.int (1:Int32)), .val (.int (0:Int32))] [(.int (1:Int32)), (.ref o1), (.ref o0), (.ref br)])) rfl rfl (hb hby d9_54) _ ?_
    show Steps p.tables e below (T31.setTop (mkF m 55 #[.val (.ref o0), .val (.ref o1), .val (.ref o2), .val (.int p3), .val (.int (p3 + (1:Int32))), .val (.int (1:Int32)), .val (.int (0:Int32))] [(.int (0:Int32)), (.ref o0), (.ref br)])) _
    refine st33.trans ?_
    show Steps p.tables e below (T33.setTop (mkF m 58 #[.val (.ref o0), .val (.ref o1), .val (.ref o2), .val (.int p3), .val (.int (p3 + (1:Int32))), .val (.int (1:Int32)), .val (.int (0:Int32))] [(.int (0:Int32)), (.ref br)])) _
    refine XS.aloadN X33.here hx rfl (hb hby d9_58) rfl rfl ?_
    refine XS.iload X33.here hx rfl (hb hby d9_59) rfl ?_
    refine XS.iload X33.here hx rfl (hb hby d9_61) rfl ?_
    show Steps p.tables e below (T33.setTop (mkF m 63 #[.val (.ref o0), .val (.ref o1), .val (.ref o2), .val (.int p3), .val (.int (p3 + (1:Int32))), .val (.int (1:Int32)), .val (.int (0:Int32))] [(.int (0:Int32)), (.int (p3 + (1:Int32))), (.ref o2), (.int (0:Int32)), (.ref br)])) _
    refine st36 _ ?_
    show Steps p.tables e below (T36.setTop (mkF m 66 #[.val (.ref o0), .val (.ref o1), .val (.ref o2), .val (.int p3), .val (.int (p3 + (1:Int32))), .val (.int (1:Int32)), .val (.int (0:Int32))] [])) _
    refine XS.iload X36.here hx rfl (hb hby d9_66) rfl ?_
    refine XS.iload X36.here hx rfl (hb hby d9_68) rfl ?_
    show Steps p.tables e below (T36.setTop (mkF m 70 #[.val (.ref o0), .val (.ref o1), .val (.ref o2), .val (.int p3), .val (.int (p3 + (1:Int32))), .val (.int (1:Int32)), .val (.int (0:Int32))] [(.int (0:Int32)), (.int (p3 + (1:Int32)))])) _
    refine XS.iadd X36.here hx rfl (hb hby d9_70) rfl ?_
    rw [Int32.add_zero]
    show Steps p.tables e below (T36.setTop (mkF m 71 #[.val (.ref o0), .val (.ref o1), .val (.ref o2), .val (.int p3), .val (.int (p3 + (1:Int32))), .val (.int (1:Int32)), .val (.int (0:Int32))] [(.int (p3 + (1:Int32)))])) _
    refine XS.istore X36.here hx rfl (hb hby d9_71) rfl (l' := #[.val (.ref o0), .val (.ref o1), .val (.ref o2), .val (.int p3), .val (.int (p3 + (1:Int32))), .val (.int (1:Int32)), .val (.int (0:Int32))]) rfl ?_
    refine XS.iinc X36.here hx rfl (hb hby d9_73) rfl (l' := #[.val (.ref o0), .val (.ref o1), .val (.ref o2), .val (.int p3), .val (.int (p3 + (1:Int32))), .val (.int (2:Int32)), .val (.int (0:Int32))]) rfl ?_
    refine XS.goto X36.here hx rfl (pc0 := 76) (pc' := 6) rfl (hb hby d9_76) (by decide) (by decide) ?_
    refine XS.iload X36.here hx rfl (hb hby d9_6) rfl ?_
    refine XS.aloadN X36.here hx rfl (hb hby d9_8) rfl rfl ?_
    show Steps p.tables e below (T36.setTop (mkF m 9 #[.val (.ref o0), .val (.ref o1), .val (.ref o2), .val (.int p3), .val (.int (p3 + (1:Int32))), .val (.int (2:Int32)), .val (.int (0:Int32))] [(.ref o1), (.int (2:Int32))])) _
    refine X36.arraylength hx (by rw [e36]; exact Ar39.1) (State.isArrayOf_alike hZ.alike Ar39.2.1) (g := (mkF m 9 #[.val (.ref o0), .val (.ref o1), .val (.ref o2), .val (.int p3), .val (.int (p3 + (1:Int32))), .val (.int (2:Int32)), .val (.int (0:Int32))] [(.ref o1), (.int (2:Int32))])) rfl rfl (hb hby d9_9) _ ?_
    rw [len_of S39 N39']
    show Steps p.tables e below (T36.setTop (mkF m 10 #[.val (.ref o0), .val (.ref o1), .val (.ref o2), .val (.int p3), .val (.int (p3 + (1:Int32))), .val (.int (2:Int32)), .val (.int (0:Int32))] [(.int (3:Int32)), (.int (2:Int32))])) _
    refine XS.icmpNo X36.here hx rfl (hb hby d9_10) rfl (tlt ((by decide) : (2:Int32) < (3:Int32))).2.1 ?_
    refine XS.iload X36.here hx rfl (hb hby d9_13) rfl ?_
    refine XS.ifNo X36.here hx rfl (hb hby d9_15) rfl ((if0 _ _).trans (tlt ((by decide) : (0:Int32) < (2:Int32))).2.2.2) ?_
    refine XS.aloadN X36.here hx rfl (hb hby d9_18) rfl rfl ?_
    refine XS.iload X36.here hx rfl (hb hby d9_19) rfl ?_
    refine XS.iinc X36.here hx rfl (hb hby d9_21) rfl (l' := #[.val (.ref o0), .val (.ref o1), .val (.ref o2), .val (.int p3), .val (.int ((p3 + (1:Int32)) + (1:Int32))), .val (.int (2:Int32)), .val (.int (0:Int32))]) rfl ?_
    refine XS.iconst X36.here hx rfl (hb hby d9_24) ?_
    show Steps p.tables e below (T36.setTop (mkF m 25 #[.val (.ref o0), .val (.ref o1), .val (.ref o2), .val (.int p3), .val (.int ((p3 + (1:Int32)) + (1:Int32))), .val (.int (2:Int32)), .val (.int (0:Int32))] [(.int (0:Int32)), (.int (p3 + (1:Int32))), (.ref o2)])) _
    refine st42 _ ?_
    show Steps p.tables e below (T42.setTop (mkF m 26 #[.val (.ref o0), .val (.ref o1), .val (.ref o2), .val (.int p3), .val (.int ((p3 + (1:Int32)) + (1:Int32))), .val (.int (2:Int32)), .val (.int (0:Int32))] [])) _
    refine XS.aloadN X42.here hx rfl (hb hby d9_26) rfl rfl ?_
    show Steps p.tables e below (T42.setTop (mkF m 27 #[.val (.ref o0), .val (.ref o1), .val (.ref o2), .val (.int p3), .val (.int ((p3 + (1:Int32)) + (1:Int32))), .val (.int (2:Int32)), .val (.int (0:Int32))] [(.ref o0)])) _
    refine st44 _ ?_
    show Steps p.tables e below (T44.setTop (mkF m 30 #[.val (.ref o0), .val (.ref o1), .val (.ref o2), .val (.int p3), .val (.int ((p3 + (1:Int32)) + (1:Int32))), .val (.int (2:Int32)), .val (.int (0:Int32))] [(.ref bn)])) _
    refine XS.aloadN X44.here hx rfl (hb hby d9_30) rfl rfl ?_
    refine XS.iload X44.here hx rfl (hb hby d9_31) rfl ?_
    show Steps p.tables e below (T44.setTop (mkF m 33 #[.val (.ref o0), .val (.ref o1), .val (.ref o2), .val (.int p3), .val (.int ((p3 + (1:Int32)) + (1:Int32))), .val (.int (2:Int32)), .val (.int (0:Int32))] [(.int (2:Int32)), (.ref o1), (.ref bn)])) _
    refine X44.iaload hx (j := (2:Int32)) (v := (.int (0:Int32))) (by rw [e44]; exact Ar46.1) (State.isArrayOf_alike hZ.alike Ar46.2.1) Ar46.2.2 hin46 (H46.at hin46 rfl) (g := (mkF m 33 #[.val (.ref o0), .val (.ref o1), .val (.ref o2), .val (.int p3), .val (.int ((p3 + (1:Int32)) + (1:Int32))), .val (.int (2:Int32)), .val (.int (0:Int32))] [(.int (2:Int32)), (.ref o1), (.ref bn)])) rfl rfl (hb hby d9_33) _ ?_
    show Steps p.tables e below (T44.setTop (mkF m 34 #[.val (.ref o0), .val (.ref o1), .val (.ref o2), .val (.int p3), .val (.int ((p3 + (1:Int32)) + (1:Int32))), .val (.int (2:Int32)), .val (.int (0:Int32))] [(.int (0:Int32)), (.ref bn)])) _
    refine X44.iaload hx (j := (0:Int32)) (v := (.int (0:Int32))) (by rw [e44]; exact Ar48.1) (State.isArrayOf_alike hZ.alike Ar48.2.1) Ar48.2.2 hin48 (H48.at hin48 rfl) (g := (mkF m 34 #[.val (.ref o0), .val (.ref o1), .val (.ref o2), .val (.int p3), .val (.int ((p3 + (1:Int32)) + (1:Int32))), .val (.int (2:Int32)), .val (.int (0:Int32))] [(.int (0:Int32)), (.ref bn)])) rfl rfl (hb hby d9_34) _ ?_
    show Steps p.tables e below (T44.setTop (mkF m 35 #[.val (.ref o0), .val (.ref o1), .val (.ref o2), .val (.int p3), .val (.int ((p3 + (1:Int32)) + (1:Int32))), .val (.int (2:Int32)), .val (.int (0:Int32))] [(.int (0:Int32))])) _
    refine XS.aloadN X44.here hx rfl (hb hby d9_35) rfl rfl ?_
    refine XS.aloadN X44.here hx rfl (hb hby d9_36) rfl rfl ?_
    refine XS.iload X44.here hx rfl (hb hby d9_37) rfl ?_
    show Steps p.tables e below (T44.setTop (mkF m 39 #[.val (.ref o0), .val (.ref o1), .val (.ref o2), .val (.int p3), .val (.int ((p3 + (1:Int32)) + (1:Int32))), .val (.int (2:Int32)), .val (.int (0:Int32))] [(.int (2:Int32)), (.ref o1), (.ref o0), (.int (0:Int32))])) _
    refine X44.iaload hx (j := (2:Int32)) (v := (.int (0:Int32))) (by rw [e44]; exact Ar49.1) (State.isArrayOf_alike hZ.alike Ar49.2.1) Ar49.2.2 hin49 (H49.at hin49 rfl) (g := (mkF m 39 #[.val (.ref o0), .val (.ref o1), .val (.ref o2), .val (.int p3), .val (.int ((p3 + (1:Int32)) + (1:Int32))), .val (.int (2:Int32)), .val (.int (0:Int32))] [(.int (2:Int32)), (.ref o1), (.ref o0), (.int (0:Int32))])) rfl rfl (hb hby d9_39) _ ?_
    show Steps p.tables e below (T44.setTop (mkF m 40 #[.val (.ref o0), .val (.ref o1), .val (.ref o2), .val (.int p3), .val (.int ((p3 + (1:Int32)) + (1:Int32))), .val (.int (2:Int32)), .val (.int (0:Int32))] [(.int (0:Int32)), (.ref o0), (.int (0:Int32))])) _
    refine st50.trans ?_
    show Steps p.tables e below (T50.setTop (mkF m 43 #[.val (.ref o0), .val (.ref o1), .val (.ref o2), .val (.int p3), .val (.int ((p3 + (1:Int32)) + (1:Int32))), .val (.int (2:Int32)), .val (.int (0:Int32))] [(.int (0:Int32)), (.int (0:Int32))])) _
    refine XS.isub X50.here hx rfl (hb hby d9_43) rfl ?_
    rw [show ((0:Int32) - (0:Int32)) = (0:Int32) from by decide]
    show Steps p.tables e below (T50.setTop (mkF m 44 #[.val (.ref o0), .val (.ref o1), .val (.ref o2), .val (.int p3), .val (.int ((p3 + (1:Int32)) + (1:Int32))), .val (.int (2:Int32)), .val (.int (0:Int32))] [(.int (0:Int32))])) _
    refine XS.istore X50.here hx rfl (hb hby d9_44) rfl (l' := #[.val (.ref o0), .val (.ref o1), .val (.ref o2), .val (.int p3), .val (.int ((p3 + (1:Int32)) + (1:Int32))), .val (.int (2:Int32)), .val (.int (0:Int32))]) rfl ?_
    refine XS.aloadN X50.here hx rfl (hb hby d9_46) rfl rfl ?_
    show Steps p.tables e below (T50.setTop (mkF m 47 #[.val (.ref o0), .val (.ref o1), .val (.ref o2), .val (.int p3), .val (.int ((p3 + (1:Int32)) + (1:Int32))), .val (.int (2:Int32)), .val (.int (0:Int32))] [(.ref o0)])) _
    refine st54 _ ?_
    show Steps p.tables e below (T54.setTop (mkF m 50 #[.val (.ref o0), .val (.ref o1), .val (.ref o2), .val (.int p3), .val (.int ((p3 + (1:Int32)) + (1:Int32))), .val (.int (2:Int32)), .val (.int (0:Int32))] [(.ref br)])) _
    refine XS.aloadN X54.here hx rfl (hb hby d9_50) rfl rfl ?_
    refine XS.aloadN X54.here hx rfl (hb hby d9_51) rfl rfl ?_
    refine XS.iload X54.here hx rfl (hb hby d9_52) rfl ?_
    show Steps p.tables e below (T54.setTop (mkF m 54 #[.val (.ref o0), .val (.ref o1), .val (.ref o2), .val (.int p3), .val (.int ((p3 + (1:Int32)) + (1:Int32))), .val (.int (2:Int32)), .val (.int (0:Int32))] [(.int (2:Int32)), (.ref o1), (.ref o0), (.ref br)])) _
    refine X54.iaload hx (j := (2:Int32)) (v := (.int (0:Int32))) (by rw [e54]; exact Ar55.1) (State.isArrayOf_alike hZ.alike Ar55.2.1) Ar55.2.2 hin55 (H55.at hin55 rfl) (g := (mkF m 54 #[.val (.ref o0), .val (.ref o1), .val (.ref o2), .val (.int p3), .val (.int ((p3 + (1:Int32)) + (1:Int32))), .val (.int (2:Int32)), .val (.int (0:Int32))] [(.int (2:Int32)), (.ref o1), (.ref o0), (.ref br)])) rfl rfl (hb hby d9_54) _ ?_
    show Steps p.tables e below (T54.setTop (mkF m 55 #[.val (.ref o0), .val (.ref o1), .val (.ref o2), .val (.int p3), .val (.int ((p3 + (1:Int32)) + (1:Int32))), .val (.int (2:Int32)), .val (.int (0:Int32))] [(.int (0:Int32)), (.ref o0), (.ref br)])) _
    refine st56.trans ?_
    show Steps p.tables e below (T56.setTop (mkF m 58 #[.val (.ref o0), .val (.ref o1), .val (.ref o2), .val (.int p3), .val (.int ((p3 + (1:Int32)) + (1:Int32))), .val (.int (2:Int32)), .val (.int (0:Int32))] [(.int (0:Int32)), (.ref br)])) _
    refine XS.aloadN X56.here hx rfl (hb hby d9_58) rfl rfl ?_
    refine XS.iload X56.here hx rfl (hb hby d9_59) rfl ?_
    refine XS.iload X56.here hx rfl (hb hby d9_61) rfl ?_
    show Steps p.tables e below (T56.setTop (mkF m 63 #[.val (.ref o0), .val (.ref o1), .val (.ref o2), .val (.int p3), .val (.int ((p3 + (1:Int32)) + (1:Int32))), .val (.int (2:Int32)), .val (.int (0:Int32))] [(.int (0:Int32)), (.int ((p3 + (1:Int32)) + (1:Int32))), (.ref o2), (.int (0:Int32)), (.ref br)])) _
    refine st58 _ ?_
    show Steps p.tables e below (T58.setTop (mkF m 66 #[.val (.ref o0), .val (.ref o1), .val (.ref o2), .val (.int p3), .val (.int ((p3 + (1:Int32)) + (1:Int32))), .val (.int (2:Int32)), .val (.int (0:Int32))] [])) _
    refine XS.iload X58.here hx rfl (hb hby d9_66) rfl ?_
    refine XS.iload X58.here hx rfl (hb hby d9_68) rfl ?_
    show Steps p.tables e below (T58.setTop (mkF m 70 #[.val (.ref o0), .val (.ref o1), .val (.ref o2), .val (.int p3), .val (.int ((p3 + (1:Int32)) + (1:Int32))), .val (.int (2:Int32)), .val (.int (0:Int32))] [(.int (0:Int32)), (.int ((p3 + (1:Int32)) + (1:Int32)))])) _
    refine XS.iadd X58.here hx rfl (hb hby d9_70) rfl ?_
    rw [Int32.add_zero]
    show Steps p.tables e below (T58.setTop (mkF m 71 #[.val (.ref o0), .val (.ref o1), .val (.ref o2), .val (.int p3), .val (.int ((p3 + (1:Int32)) + (1:Int32))), .val (.int (2:Int32)), .val (.int (0:Int32))] [(.int ((p3 + (1:Int32)) + (1:Int32)))])) _
    refine XS.istore X58.here hx rfl (hb hby d9_71) rfl (l' := #[.val (.ref o0), .val (.ref o1), .val (.ref o2), .val (.int p3), .val (.int ((p3 + (1:Int32)) + (1:Int32))), .val (.int (2:Int32)), .val (.int (0:Int32))]) rfl ?_
    refine XS.iinc X58.here hx rfl (hb hby d9_73) rfl (l' := #[.val (.ref o0), .val (.ref o1), .val (.ref o2), .val (.int p3), .val (.int ((p3 + (1:Int32)) + (1:Int32))), .val (.int (3:Int32)), .val (.int (0:Int32))]) rfl ?_
    refine XS.goto X58.here hx rfl (pc0 := 76) (pc' := 6) rfl (hb hby d9_76) (by decide) (by decide) ?_
    refine XS.iload X58.here hx rfl (hb hby d9_6) rfl ?_
    refine XS.aloadN X58.here hx rfl (hb hby d9_8) rfl rfl ?_
    show Steps p.tables e below (T58.setTop (mkF m 9 #[.val (.ref o0), .val (.ref o1), .val (.ref o2), .val (.int p3), .val (.int ((p3 + (1:Int32)) + (1:Int32))), .val (.int (3:Int32)), .val (.int (0:Int32))] [(.ref o1), (.int (3:Int32))])) _
    refine X58.arraylength hx (by rw [e58]; exact Ar61.1) (State.isArrayOf_alike hZ.alike Ar61.2.1) (g := (mkF m 9 #[.val (.ref o0), .val (.ref o1), .val (.ref o2), .val (.int p3), .val (.int ((p3 + (1:Int32)) + (1:Int32))), .val (.int (3:Int32)), .val (.int (0:Int32))] [(.ref o1), (.int (3:Int32))])) rfl rfl (hb hby d9_9) _ ?_
    rw [len_of S61 N61']
    show Steps p.tables e below (T58.setTop (mkF m 10 #[.val (.ref o0), .val (.ref o1), .val (.ref o2), .val (.int p3), .val (.int ((p3 + (1:Int32)) + (1:Int32))), .val (.int (3:Int32)), .val (.int (0:Int32))] [(.int (3:Int32)), (.int (3:Int32))])) _
    refine XS.icmpYes X58.here hx rfl (pc0 := 10) (pc' := 79) rfl (hb hby d9_10) rfl (flt ((by decide) : ¬ ((3:Int32) < (3:Int32)))).2.1 (by decide) (by decide) ?_
    show Steps p.tables e below (T58.setTop (mkF m 79 #[.val (.ref o0), .val (.ref o1), .val (.ref o2), .val (.int p3), .val (.int ((p3 + (1:Int32)) + (1:Int32))), .val (.int (3:Int32)), .val (.int (0:Int32))] [])) _
    exact X58.returnOut hx Bd.returns (hb hby d9_79) hr
  · show rm9Q Z o0 o1 o2 p3 k2 (3:Int32) h0 n0 _ T58.heap _
    rw [e58]
    exact ⟨rfl, N58, Kk_62, Ac58⟩
theorem pd_rm9_4_0 : parseMethodDescriptor "(I)I" = some ⟨[.int], some .int⟩ := by decide +kernel
theorem ef_rm9_4 (m : MethodId) (o0 : Nat) (o1 : Nat) (o2 : Nat) (p3 : Int32) : entryFrame m #[(.ref o0), (.ref o1), (.ref o2), (.int p3)] 7 = mkF m 0 #[.val (.ref o0), .val (.ref o1), .val (.ref o2), .val (.int p3), .unset, .unset, .unset] [] := by first | (simp [entryFrame, mkF, argsToLocals, Value.category]; done) | rfl
set_option maxRecDepth 65536 in
set_option maxHeartbeats 40000000 in
theorem rm9_4 (l : Launch) (Z : State) (aw : Array Value) (hw : ∀ d ∈ tables_1, d.before aw Z = true) (ws : List Jvm.Cond) (o0 : Nat) (o1 : Nat) (o2 : Nat) (p3 : Int32) (bn br : Nat) (kn kr k1 k2 : ClassId) (h0 : Heap) (n0 : Nat) (Z0 : n0 ≤ h0.size) (E_o0 : Exa Z h0 o0 "com/example/tavola/tavola/profile/CsvReader") (F_ends : Fld Z h0 o0 "com/example/tavola/tavola/profile/CsvReader" "ends" "[I" (.ref bn)) (V_bn : Arv Z h0 bn kn .int (16:Int32) [] (.int (0:Int32))) (F_rec : Fld Z h0 o0 "com/example/tavola/tavola/profile/CsvReader" "record" "[B" (.ref br)) (A_br : own_Arf Z h0 br kr .byte (256:Int32) (.int (0:Int32))) (V_o1 : Arv Z h0 o1 k1 .int (4:Int32) [] (.int (0:Int32))) (A_o2 : own_Arf Z h0 o2 k2 .byte (65536:Int32) (.int (0:Int32))) (g_o2 : n0 ≤ o2) (hp0 : ¬ p3 < (0:Int32)) (hp6 : ¬ (6:Int32) < p3) (lt1 : o1 < o2) (lt2 : o0 < o2) (lt3 : bn < o2) (lt4 : br < o2) :
    MetFree l (⟨"com/example/tavola/tavola/profile/CsvReader", "copyKey", "([I[BI)V"⟩ : MethodName) (head1 (Jvm.Cond.code (⟨"com/example/tavola/tavola/profile/CsvReader", "copyKey", "([I[BI)V"⟩ : MethodName) prog_81_method_14_code 7 none :: ws) ({ frames := 1, cells := 0, slots := 0, locals := 60 } : Room)) (fun a U => a = #[(.ref o0), (.ref o1), (.ref o2), (.int p3)] ∧ Z.Warmed39 U.vm ∧ U.heap = h0) (fun _ _ _ _ _ => True) (fun _ U o U' => ∃ v L, o = .returned v ∧ rm9Q Z o0 o1 o2 p3 k2 (4:Int32) h0 n0 v U'.heap L ∧ FrameEnd U o U' L ({ frames := 1, cells := 0, slots := 0, locals := 60 } : Room).cells ({ frames := 1, cells := 0, slots := 0, locals := 60 } : Room).slots) := by
  refine MetFree.of_bodySF (plainFor_of_name pn_9) hisR ?_
  intro p e s m args below meth c s₁ Bd hml0 hP hK
  obtain ⟨rfl, hZ, hh⟩ := hP
  have hx := Bd.exec
  have hby := Bd.bytes
  have hml : c.maxLocals = 7 := hml0
  have hown : s.vm.findClass "com/example/tavola/tavola/profile/CsvReader" = some m.cls := findClass_of_methodNamed Bd.named
  have hnm := (name_of_methodNamed Bd.named Bd.method).1
  have X0 : Stand p l e ({ frames := 1, cells := 0, slots := 0, locals := 60 } : Room) s m #[(.ref o0), (.ref o1), (.ref o2), (.int p3)] below meth c s₁ [] 0 0 := Stand.of_body Bd
  have e0 : s₁.heap = h0 := by rw [← hh, Bd.state]; rfl
  have N0 := Fr.nil n0
  have pre0 : ∀ t, Steps p.tables e below (s₁.setTop (mkF m 0 #[.val (.ref o0), .val (.ref o1), .val (.ref o2), .val (.int p3), .unset, .unset, .unset] [])) t → Steps p.tables e below (s₁.setTop (entryFrame m #[(.ref o0), (.ref o1), (.ref o2), (.int p3)] 7)) t := fun t k => castTop (ef_rm9_4 m o0 o1 o2 p3) k
  obtain ⟨cl1, Ar1, -, S1, N1', -, -⟩ := id V_o1
  obtain ⟨T2, X2, e2, st2⟩ := getF X0 hx hZ hown (host := "") (Or.inl (hw _ (oG (i := 19) rfl))) Via.refl e0 F_ends (g := (mkF m 27 #[.val (.ref o0), .val (.ref o1), .val (.ref o2), .val (.int p3), .val (.int p3), .val (.int (0:Int32)), .unset] [(.ref o0)])) rfl rfl (hb hby d9_27)
  obtain ⟨cl3, Ar3, q3, S3, N3', H3, G3⟩ := id V_o1
  have hin3 : ¬ ((0:Int32) < 0 ∨ cl3.slots.size ≤ ((0:Int32)).toNatClampNeg) := inb_of S3 ⟨by decide, by decide⟩
  obtain ⟨cl4, Ar4, q4, S4, N4', H4, G4⟩ := id V_bn
  have hin4 : ¬ ((0:Int32) < 0 ∨ cl4.slots.size ≤ ((0:Int32)).toNatClampNeg) := inb_of S4 ⟨by decide, by decide⟩
  obtain ⟨cl5, Ar5, q5, S5, N5', H5, G5⟩ := id V_o1
  have hin5 : ¬ ((0:Int32) < 0 ∨ cl5.slots.size ≤ ((0:Int32)).toNatClampNeg) := inb_of S5 ⟨by decide, by decide⟩
  obtain ⟨cq6, q6, q6'⟩ := (E_o0).cell
  obtain ⟨_, _, ⟨T6, L6, k6, n6⟩, -, X6, ⟨Lc6, hQ6, l6, y6, z6⟩, st6⟩ := X2.privateBack hx (y := (⟨"com/example/tavola/tavola/profile/CsvReader", "start", "(I)I"⟩ : MethodName)) hown (mvT hZ (hw _ (oG (i := 70) rfl))) (mvT hZ (hw _ (oG (i := 71) rfl))) (own_selP hZ (hw _ (oG (i := 3) rfl)) (hw _ (oG (i := 71) rfl)) (hw _ (oG (i := 72) rfl)) (by decide)) (Cond.privateMethod_at (mvP hZ (hw _ (oG (i := 72) rfl)) (args := #[]))) (mvT hZ (hw _ (oG (i := 73) rfl))) (by decide) (backOf (W := 1) (rm8 l Z aw hw [] o0 h0 n0 Z0) hZ (hw _ (oG (i := 73) rfl)) (hw _ (oG (i := 4) rfl)) (by decide) (by decide)) (g := (mkF m 40 #[.val (.ref o0), .val (.ref o1), .val (.ref o2), .val (.int p3), .val (.int p3), .val (.int (0:Int32)), .unset] [(.int (0:Int32)), (.ref o0), (.int (0:Int32))])) rfl (by rw [hml]; rfl) (Steps.refl _) (a := o0) (by rw [e2]; exact q6) q6' (argsL := [(.int (0:Int32))]) (rest := [(.int (0:Int32))]) (lenOf pd_rm9_4_0 rfl) rfl (by show 2 * 0 + _ ≤ _; exact Nat.le_of_eq rfl) (hb hby d9_40) (fun _ _ => ⟨rfl, e2, (by decide : 0 + 0 ≤ _), (by decide : 0 + 0 ≤ _)⟩)
  dsimp only [Pt.U, Pt.locs, Pt.cells, Pt.slots] at X6 l6 y6 z6 st6 hQ6
  subst l6 y6 z6
  obtain ⟨rfl, N6q, e6q⟩ := hQ6
  have N6 := Fr.app N0 N6q
  obtain ⟨T7, X7, e7, st7⟩ := getF X6 hx hZ hown (host := "") (Or.inl (hw _ (oG (i := 17) rfl))) Via.refl e6q F_rec (g := (mkF m 47 #[.val (.ref o0), .val (.ref o1), .val (.ref o2), .val (.int p3), .val (.int p3), .val (.int (0:Int32)), .val (.int (0:Int32))] [(.ref o0)])) rfl rfl (hb hby d9_47)
  obtain ⟨cl8, Ar8, q8, S8, N8', H8, G8⟩ := id V_o1
  have hin8 : ¬ ((0:Int32) < 0 ∨ cl8.slots.size ≤ ((0:Int32)).toNatClampNeg) := inb_of S8 ⟨by decide, by decide⟩
  obtain ⟨cq9, q9, q9'⟩ := (E_o0).cell
  obtain ⟨_, _, ⟨T9, L9, k9, n9⟩, -, X9, ⟨Lc9, hQ9, l9, y9, z9⟩, st9⟩ := X7.privateBack hx (y := (⟨"com/example/tavola/tavola/profile/CsvReader", "start", "(I)I"⟩ : MethodName)) hown (mvT hZ (hw _ (oG (i := 70) rfl))) (mvT hZ (hw _ (oG (i := 71) rfl))) (own_selP hZ (hw _ (oG (i := 3) rfl)) (hw _ (oG (i := 71) rfl)) (hw _ (oG (i := 72) rfl)) (by decide)) (Cond.privateMethod_at (mvP hZ (hw _ (oG (i := 72) rfl)) (args := #[]))) (mvT hZ (hw _ (oG (i := 73) rfl))) (by decide) (backOf (W := 1) (rm8 l Z aw hw [] o0 h0 n0 Z0) hZ (hw _ (oG (i := 73) rfl)) (hw _ (oG (i := 4) rfl)) (by decide) (by decide)) (g := (mkF m 55 #[.val (.ref o0), .val (.ref o1), .val (.ref o2), .val (.int p3), .val (.int p3), .val (.int (0:Int32)), .val (.int (0:Int32))] [(.int (0:Int32)), (.ref o0), (.ref br)])) rfl (by rw [hml]; rfl) (Steps.refl _) (a := o0) (by rw [e7]; exact q9) q9' (argsL := [(.int (0:Int32))]) (rest := [(.ref br)]) (lenOf pd_rm9_4_0 rfl) rfl (by show 2 * 0 + _ ≤ _; exact Nat.le_of_eq rfl) (hb hby d9_55) (fun _ _ => ⟨rfl, e7, (by decide : 0 + 0 ≤ _), (by decide : 0 + 0 ≤ _)⟩)
  dsimp only [Pt.U, Pt.locs, Pt.cells, Pt.slots] at X9 l9 y9 z9 st9 hQ9
  subst l9 y9 z9
  obtain ⟨rfl, N9q, e9q⟩ := hQ9
  have N9 := Fr.app N6 N9q
  obtain ⟨vr10, hlr10, Vr10⟩ := id A_br
  obtain ⟨vk10, hlk10, Vk10⟩ := id A_o2
  have ps_11 : ¬ p3 < (0:Int32) ∧ ¬ (6:Int32) < p3 := ⟨hp0, hp6⟩
  have hps10 := own_nat ps_11.1 (fun z => ps_11.2 (own_ltb z (by decide)))
  obtain ⟨T10, h10, L10, X10, e10, N10, K10, Vc10, st10⟩ := cpA X9 hx hZ hown (hw _ (oG (i := 81) rfl)) (hw _ (oG (i := 84) rfl)) (hw _ (oG (i := 82) rfl)) (hw _ (oG (i := 83) rfl)) e9q (us := []) Vr10 Vk10 (Or.inl ⟨rfl, rfl⟩) (by decide) ps_11.1 (by decide) (by decide) (by show _ + 0 ≤ _; exact hps10) rfl (by show _ + 0 ≤ _; exact Nat.le_trans hps10 hlk10) N9 g_o2 (g := (mkF m 63 #[.val (.ref o0), .val (.ref o1), .val (.ref o2), .val (.int p3), .val (.int p3), .val (.int (0:Int32)), .val (.int (0:Int32))] [(.int (0:Int32)), (.int p3), (.ref o2), (.int (0:Int32)), (.ref br)])) rfl (by rw [hml]; rfl) (rest := []) rfl (hb hby d9_63) (by decide) (W := 0) (by show 2 * 0 + _ ≤ _; exact Nat.le_of_eq rfl) (by decide)
  have Ac10 : own_Arf Z h10 o2 k2 .byte (65536:Int32) (.int (0:Int32)) := ⟨_, own_cplen hlk10 hps10 rfl, Vc10⟩
  have ne_12 : o1 ≠ o2 := by omega
  have Va_13 : Arv Z h10 o1 k1 .int (4:Int32) [] (.int (0:Int32)) := (V_o1.keep K10 (ninS ne_12 nin0))
  obtain ⟨cl14, Ar14, -, S14, N14', -, -⟩ := id Va_13
  obtain ⟨vs15, hl15, cl15, Ar15, q15, S15, N15', H15, G15⟩ := id Ac10
  have ps_16 : ¬ p3 < (0:Int32) ∧ ¬ (6:Int32) < p3 := ⟨hp0, hp6⟩
  have hin15 : ¬ (p3 < 0 ∨ cl15.slots.size ≤ (p3).toNatClampNeg) := inb_of S15 (own_px ps_16.1 (fun z => ps_16.2 (own_ltb z (by decide))))
  obtain ⟨T17, h17, X17, e17, W17, st17⟩ := stB X10 hx hZ e10 Ar15 (j := p3) hin15 (g := (mkF m 25 #[.val (.ref o0), .val (.ref o1), .val (.ref o2), .val (.int p3), .val (.int (p3 + (1:Int32))), .val (.int (1:Int32)), .val (.int (0:Int32))] [(.int (0:Int32)), (.int p3), (.ref o2)])) rfl rfl (hb hby d9_25)
  have As17 : own_Arf Z h17 o2 k2 .byte (65536:Int32) (.int (0:Int32)) := own_arfW hl15 Ar15 q15 S15 N15' H15 G15 (fits_nar_byte _) W17 hin15
  have N17 := Fr.snoc X17 N10 g_o2
  have ne_18 : o0 ≠ o2 := by omega
  have Ff_19 : Fld Z h17 o0 "com/example/tavola/tavola/profile/CsvReader" "ends" "[I" (.ref bn) := ((F_ends.keep K10 (ninS ne_18 nin0)).other W17 (Or.inl ne_18))
  obtain ⟨T20, X20, e20, st20⟩ := getF X17 hx hZ hown (host := "") (Or.inl (hw _ (oG (i := 19) rfl))) Via.refl e17 Ff_19 (g := (mkF m 27 #[.val (.ref o0), .val (.ref o1), .val (.ref o2), .val (.int p3), .val (.int (p3 + (1:Int32))), .val (.int (1:Int32)), .val (.int (0:Int32))] [(.ref o0)])) rfl rfl (hb hby d9_27)
  have Va_21 : Arv Z h17 o1 k1 .int (4:Int32) [] (.int (0:Int32)) := (Va_13.other W17 ne_12)
  obtain ⟨cl22, Ar22, q22, S22, N22', H22, G22⟩ := id Va_21
  have hin22 : ¬ ((1:Int32) < 0 ∨ cl22.slots.size ≤ ((1:Int32)).toNatClampNeg) := inb_of S22 ⟨by decide, by decide⟩
  have ne_23 : bn ≠ o2 := by omega
  have Va_24 : Arv Z h17 bn kn .int (16:Int32) [] (.int (0:Int32)) := ((V_bn.keep K10 (ninS ne_23 nin0)).other W17 ne_23)
  obtain ⟨cl25, Ar25, q25, S25, N25', H25, G25⟩ := id Va_24
  have hin25 : ¬ ((0:Int32) < 0 ∨ cl25.slots.size ≤ ((0:Int32)).toNatClampNeg) := inb_of S25 ⟨by decide, by decide⟩
  obtain ⟨cl26, Ar26, q26, S26, N26', H26, G26⟩ := id Va_21
  have hin26 : ¬ ((1:Int32) < 0 ∨ cl26.slots.size ≤ ((1:Int32)).toNatClampNeg) := inb_of S26 ⟨by decide, by decide⟩
  have Zz_28 : n0 ≤ h17.size := (Nat.le_trans (Nat.le_trans Z0 K10.1) (Keep.of_wr W17).1)
  have Ee_29 : Exa Z h17 o0 "com/example/tavola/tavola/profile/CsvReader" := ((E_o0.keep K10).wr W17)
  obtain ⟨cq27, q27, q27'⟩ := (Ee_29).cell
  obtain ⟨_, _, ⟨T27, L27, k27, n27⟩, -, X27, ⟨Lc27, hQ27, l27, y27, z27⟩, st27⟩ := X20.privateBack hx (y := (⟨"com/example/tavola/tavola/profile/CsvReader", "start", "(I)I"⟩ : MethodName)) hown (mvT hZ (hw _ (oG (i := 70) rfl))) (mvT hZ (hw _ (oG (i := 71) rfl))) (own_selP hZ (hw _ (oG (i := 3) rfl)) (hw _ (oG (i := 71) rfl)) (hw _ (oG (i := 72) rfl)) (by decide)) (Cond.privateMethod_at (mvP hZ (hw _ (oG (i := 72) rfl)) (args := #[]))) (mvT hZ (hw _ (oG (i := 73) rfl))) (by decide) (backOf (W := 1) (rm8 l Z aw hw [] o0 h17 n0 Zz_28) hZ (hw _ (oG (i := 73) rfl)) (hw _ (oG (i := 4) rfl)) (by decide) (by decide)) (g := (mkF m 40 #[.val (.ref o0), .val (.ref o1), .val (.ref o2), .val (.int p3), .val (.int (p3 + (1:Int32))), .val (.int (1:Int32)), .val (.int (0:Int32))] [(.int (0:Int32)), (.ref o0), (.int (0:Int32))])) rfl (by rw [hml]; rfl) (Steps.refl _) (a := o0) (by rw [e20]; exact q27) q27' (argsL := [(.int (0:Int32))]) (rest := [(.int (0:Int32))]) (lenOf pd_rm9_4_0 rfl) rfl (by show 2 * 0 + _ ≤ _; exact Nat.le_of_eq rfl) (hb hby d9_40) (fun _ _ => ⟨rfl, e20, (by decide : 0 + 0 ≤ _), (by decide : 0 + 0 ≤ _)⟩)
  dsimp only [Pt.U, Pt.locs, Pt.cells, Pt.slots] at X27 l27 y27 z27 st27 hQ27
  subst l27 y27 z27
  obtain ⟨rfl, N27q, e27q⟩ := hQ27
  have N27 := Fr.app N17 N27q
  have Ff_30 : Fld Z h17 o0 "com/example/tavola/tavola/profile/CsvReader" "record" "[B" (.ref br) := ((F_rec.keep K10 (ninS ne_18 nin0)).other W17 (Or.inl ne_18))
  obtain ⟨T31, X31, e31, st31⟩ := getF X27 hx hZ hown (host := "") (Or.inl (hw _ (oG (i := 17) rfl))) Via.refl e27q Ff_30 (g := (mkF m 47 #[.val (.ref o0), .val (.ref o1), .val (.ref o2), .val (.int p3), .val (.int (p3 + (1:Int32))), .val (.int (1:Int32)), .val (.int (0:Int32))] [(.ref o0)])) rfl rfl (hb hby d9_47)
  obtain ⟨cl32, Ar32, q32, S32, N32', H32, G32⟩ := id Va_21
  have hin32 : ¬ ((1:Int32) < 0 ∨ cl32.slots.size ≤ ((1:Int32)).toNatClampNeg) := inb_of S32 ⟨by decide, by decide⟩
  obtain ⟨cq33, q33, q33'⟩ := (Ee_29).cell
  obtain ⟨_, _, ⟨T33, L33, k33, n33⟩, -, X33, ⟨Lc33, hQ33, l33, y33, z33⟩, st33⟩ := X31.privateBack hx (y := (⟨"com/example/tavola/tavola/profile/CsvReader", "start", "(I)I"⟩ : MethodName)) hown (mvT hZ (hw _ (oG (i := 70) rfl))) (mvT hZ (hw _ (oG (i := 71) rfl))) (own_selP hZ (hw _ (oG (i := 3) rfl)) (hw _ (oG (i := 71) rfl)) (hw _ (oG (i := 72) rfl)) (by decide)) (Cond.privateMethod_at (mvP hZ (hw _ (oG (i := 72) rfl)) (args := #[]))) (mvT hZ (hw _ (oG (i := 73) rfl))) (by decide) (backOf (W := 1) (rm8 l Z aw hw [] o0 h17 n0 Zz_28) hZ (hw _ (oG (i := 73) rfl)) (hw _ (oG (i := 4) rfl)) (by decide) (by decide)) (g := (mkF m 55 #[.val (.ref o0), .val (.ref o1), .val (.ref o2), .val (.int p3), .val (.int (p3 + (1:Int32))), .val (.int (1:Int32)), .val (.int (0:Int32))] [(.int (0:Int32)), (.ref o0), (.ref br)])) rfl (by rw [hml]; rfl) (Steps.refl _) (a := o0) (by rw [e31]; exact q33) q33' (argsL := [(.int (0:Int32))]) (rest := [(.ref br)]) (lenOf pd_rm9_4_0 rfl) rfl (by show 2 * 0 + _ ≤ _; exact Nat.le_of_eq rfl) (hb hby d9_55) (fun _ _ => ⟨rfl, e31, (by decide : 0 + 0 ≤ _), (by decide : 0 + 0 ≤ _)⟩)
  dsimp only [Pt.U, Pt.locs, Pt.cells, Pt.slots] at X33 l33 y33 z33 st33 hQ33
  subst l33 y33 z33
  obtain ⟨rfl, N33q, e33q⟩ := hQ33
  have N33 := Fr.app N27 N33q
  have ne_34 : br ≠ o2 := by omega
  have Aa_35 : own_Arf Z h17 br kr .byte (256:Int32) (.int (0:Int32)) := (own_arfO (own_arfK A_br K10 (ninS ne_34 nin0)) W17 ne_34)
  obtain ⟨vr36, hlr36, Vr36⟩ := id Aa_35
  obtain ⟨vk36, hlk36, Vk36⟩ := id As17
  have ps_37 : ¬ (p3 + (1:Int32)) < (0:Int32) ∧ ¬ (7:Int32) < (p3 + (1:Int32)) := (own_up hp0 hp6 (m := (7:Int32)) (by decide) (by decide))
  have hps36 := own_nat ps_37.1 (fun z => ps_37.2 (own_ltb z (by decide)))
  obtain ⟨T36, h36, L36, X36, e36, N36, K36, Vc36, st36⟩ := cpA X33 hx hZ hown (hw _ (oG (i := 81) rfl)) (hw _ (oG (i := 84) rfl)) (hw _ (oG (i := 82) rfl)) (hw _ (oG (i := 83) rfl)) e33q (us := []) Vr36 Vk36 (Or.inl ⟨rfl, rfl⟩) (by decide) ps_37.1 (by decide) (by decide) (by show _ + 0 ≤ _; exact hps36) rfl (by show _ + 0 ≤ _; exact Nat.le_trans hps36 hlk36) N33 g_o2 (g := (mkF m 63 #[.val (.ref o0), .val (.ref o1), .val (.ref o2), .val (.int p3), .val (.int (p3 + (1:Int32))), .val (.int (1:Int32)), .val (.int (0:Int32))] [(.int (0:Int32)), (.int (p3 + (1:Int32))), (.ref o2), (.int (0:Int32)), (.ref br)])) rfl (by rw [hml]; rfl) (rest := []) rfl (hb hby d9_63) (by decide) (W := 0) (by show 2 * 0 + _ ≤ _; exact Nat.le_of_eq rfl) (by decide)
  have Ac36 : own_Arf Z h36 o2 k2 .byte (65536:Int32) (.int (0:Int32)) := ⟨_, own_cplen hlk36 hps36 rfl, Vc36⟩
  have Va_38 : Arv Z h36 o1 k1 .int (4:Int32) [] (.int (0:Int32)) := (Va_21.keep K36 (ninS ne_12 nin0))
  obtain ⟨cl39, Ar39, -, S39, N39', -, -⟩ := id Va_38
  obtain ⟨vs40, hl40, cl40, Ar40, q40, S40, N40', H40, G40⟩ := id Ac36
  have ps_41 : ¬ (p3 + (1:Int32)) < (0:Int32) ∧ ¬ (7:Int32) < (p3 + (1:Int32)) := (own_up hp0 hp6 (m := (7:Int32)) (by decide) (by decide))
  have hin40 : ¬ ((p3 + (1:Int32)) < 0 ∨ cl40.slots.size ≤ ((p3 + (1:Int32))).toNatClampNeg) := inb_of S40 (own_px ps_41.1 (fun z => ps_41.2 (own_ltb z (by decide))))
  obtain ⟨T42, h42, X42, e42, W42, st42⟩ := stB X36 hx hZ e36 Ar40 (j := (p3 + (1:Int32))) hin40 (g := (mkF m 25 #[.val (.ref o0), .val (.ref o1), .val (.ref o2), .val (.int p3), .val (.int ((p3 + (1:Int32)) + (1:Int32))), .val (.int (2:Int32)), .val (.int (0:Int32))] [(.int (0:Int32)), (.int (p3 + (1:Int32))), (.ref o2)])) rfl rfl (hb hby d9_25)
  have As42 : own_Arf Z h42 o2 k2 .byte (65536:Int32) (.int (0:Int32)) := own_arfW hl40 Ar40 q40 S40 N40' H40 G40 (fits_nar_byte _) W42 hin40
  have N42 := Fr.snoc X42 N36 g_o2
  have Ff_43 : Fld Z h42 o0 "com/example/tavola/tavola/profile/CsvReader" "ends" "[I" (.ref bn) := ((Ff_19.keep K36 (ninS ne_18 nin0)).other W42 (Or.inl ne_18))
  obtain ⟨T44, X44, e44, st44⟩ := getF X42 hx hZ hown (host := "") (Or.inl (hw _ (oG (i := 19) rfl))) Via.refl e42 Ff_43 (g := (mkF m 27 #[.val (.ref o0), .val (.ref o1), .val (.ref o2), .val (.int p3), .val (.int ((p3 + (1:Int32)) + (1:Int32))), .val (.int (2:Int32)), .val (.int (0:Int32))] [(.ref o0)])) rfl rfl (hb hby d9_27)
  have Va_45 : Arv Z h42 o1 k1 .int (4:Int32) [] (.int (0:Int32)) := (Va_38.other W42 ne_12)
  obtain ⟨cl46, Ar46, q46, S46, N46', H46, G46⟩ := id Va_45
  have hin46 : ¬ ((2:Int32) < 0 ∨ cl46.slots.size ≤ ((2:Int32)).toNatClampNeg) := inb_of S46 ⟨by decide, by decide⟩
  have Va_47 : Arv Z h42 bn kn .int (16:Int32) [] (.int (0:Int32)) := ((Va_24.keep K36 (ninS ne_23 nin0)).other W42 ne_23)
  obtain ⟨cl48, Ar48, q48, S48, N48', H48, G48⟩ := id Va_47
  have hin48 : ¬ ((0:Int32) < 0 ∨ cl48.slots.size ≤ ((0:Int32)).toNatClampNeg) := inb_of S48 ⟨by decide, by decide⟩
  obtain ⟨cl49, Ar49, q49, S49, N49', H49, G49⟩ := id Va_45
  have hin49 : ¬ ((2:Int32) < 0 ∨ cl49.slots.size ≤ ((2:Int32)).toNatClampNeg) := inb_of S49 ⟨by decide, by decide⟩
  have Zz_51 : n0 ≤ h42.size := (Nat.le_trans (Nat.le_trans Zz_28 K36.1) (Keep.of_wr W42).1)
  have Ee_52 : Exa Z h42 o0 "com/example/tavola/tavola/profile/CsvReader" := ((Ee_29.keep K36).wr W42)
  obtain ⟨cq50, q50, q50'⟩ := (Ee_52).cell
  obtain ⟨_, _, ⟨T50, L50, k50, n50⟩, -, X50, ⟨Lc50, hQ50, l50, y50, z50⟩, st50⟩ := X44.privateBack hx (y := (⟨"com/example/tavola/tavola/profile/CsvReader", "start", "(I)I"⟩ : MethodName)) hown (mvT hZ (hw _ (oG (i := 70) rfl))) (mvT hZ (hw _ (oG (i := 71) rfl))) (own_selP hZ (hw _ (oG (i := 3) rfl)) (hw _ (oG (i := 71) rfl)) (hw _ (oG (i := 72) rfl)) (by decide)) (Cond.privateMethod_at (mvP hZ (hw _ (oG (i := 72) rfl)) (args := #[]))) (mvT hZ (hw _ (oG (i := 73) rfl))) (by decide) (backOf (W := 1) (rm8 l Z aw hw [] o0 h42 n0 Zz_51) hZ (hw _ (oG (i := 73) rfl)) (hw _ (oG (i := 4) rfl)) (by decide) (by decide)) (g := (mkF m 40 #[.val (.ref o0), .val (.ref o1), .val (.ref o2), .val (.int p3), .val (.int ((p3 + (1:Int32)) + (1:Int32))), .val (.int (2:Int32)), .val (.int (0:Int32))] [(.int (0:Int32)), (.ref o0), (.int (0:Int32))])) rfl (by rw [hml]; rfl) (Steps.refl _) (a := o0) (by rw [e44]; exact q50) q50' (argsL := [(.int (0:Int32))]) (rest := [(.int (0:Int32))]) (lenOf pd_rm9_4_0 rfl) rfl (by show 2 * 0 + _ ≤ _; exact Nat.le_of_eq rfl) (hb hby d9_40) (fun _ _ => ⟨rfl, e44, (by decide : 0 + 0 ≤ _), (by decide : 0 + 0 ≤ _)⟩)
  dsimp only [Pt.U, Pt.locs, Pt.cells, Pt.slots] at X50 l50 y50 z50 st50 hQ50
  subst l50 y50 z50
  obtain ⟨rfl, N50q, e50q⟩ := hQ50
  have N50 := Fr.app N42 N50q
  have Ff_53 : Fld Z h42 o0 "com/example/tavola/tavola/profile/CsvReader" "record" "[B" (.ref br) := ((Ff_30.keep K36 (ninS ne_18 nin0)).other W42 (Or.inl ne_18))
  obtain ⟨T54, X54, e54, st54⟩ := getF X50 hx hZ hown (host := "") (Or.inl (hw _ (oG (i := 17) rfl))) Via.refl e50q Ff_53 (g := (mkF m 47 #[.val (.ref o0), .val (.ref o1), .val (.ref o2), .val (.int p3), .val (.int ((p3 + (1:Int32)) + (1:Int32))), .val (.int (2:Int32)), .val (.int (0:Int32))] [(.ref o0)])) rfl rfl (hb hby d9_47)
  obtain ⟨cl55, Ar55, q55, S55, N55', H55, G55⟩ := id Va_45
  have hin55 : ¬ ((2:Int32) < 0 ∨ cl55.slots.size ≤ ((2:Int32)).toNatClampNeg) := inb_of S55 ⟨by decide, by decide⟩
  obtain ⟨cq56, q56, q56'⟩ := (Ee_52).cell
  obtain ⟨_, _, ⟨T56, L56, k56, n56⟩, -, X56, ⟨Lc56, hQ56, l56, y56, z56⟩, st56⟩ := X54.privateBack hx (y := (⟨"com/example/tavola/tavola/profile/CsvReader", "start", "(I)I"⟩ : MethodName)) hown (mvT hZ (hw _ (oG (i := 70) rfl))) (mvT hZ (hw _ (oG (i := 71) rfl))) (own_selP hZ (hw _ (oG (i := 3) rfl)) (hw _ (oG (i := 71) rfl)) (hw _ (oG (i := 72) rfl)) (by decide)) (Cond.privateMethod_at (mvP hZ (hw _ (oG (i := 72) rfl)) (args := #[]))) (mvT hZ (hw _ (oG (i := 73) rfl))) (by decide) (backOf (W := 1) (rm8 l Z aw hw [] o0 h42 n0 Zz_51) hZ (hw _ (oG (i := 73) rfl)) (hw _ (oG (i := 4) rfl)) (by decide) (by decide)) (g := (mkF m 55 #[.val (.ref o0), .val (.ref o1), .val (.ref o2), .val (.int p3), .val (.int ((p3 + (1:Int32)) + (1:Int32))), .val (.int (2:Int32)), .val (.int (0:Int32))] [(.int (0:Int32)), (.ref o0), (.ref br)])) rfl (by rw [hml]; rfl) (Steps.refl _) (a := o0) (by rw [e54]; exact q56) q56' (argsL := [(.int (0:Int32))]) (rest := [(.ref br)]) (lenOf pd_rm9_4_0 rfl) rfl (by show 2 * 0 + _ ≤ _; exact Nat.le_of_eq rfl) (hb hby d9_55) (fun _ _ => ⟨rfl, e54, (by decide : 0 + 0 ≤ _), (by decide : 0 + 0 ≤ _)⟩)
  dsimp only [Pt.U, Pt.locs, Pt.cells, Pt.slots] at X56 l56 y56 z56 st56 hQ56
  subst l56 y56 z56
  obtain ⟨rfl, N56q, e56q⟩ := hQ56
  have N56 := Fr.app N50 N56q
  have Aa_57 : own_Arf Z h42 br kr .byte (256:Int32) (.int (0:Int32)) := (own_arfO (own_arfK Aa_35 K36 (ninS ne_34 nin0)) W42 ne_34)
  obtain ⟨vr58, hlr58, Vr58⟩ := id Aa_57
  obtain ⟨vk58, hlk58, Vk58⟩ := id As42
  have ps_59 : ¬ ((p3 + (1:Int32)) + (1:Int32)) < (0:Int32) ∧ ¬ (8:Int32) < ((p3 + (1:Int32)) + (1:Int32)) := (own_up (own_up hp0 hp6 (m := (7:Int32)) (by decide) (by decide)).1 (own_up hp0 hp6 (m := (7:Int32)) (by decide) (by decide)).2 (m := (8:Int32)) (by decide) (by decide))
  have hps58 := own_nat ps_59.1 (fun z => ps_59.2 (own_ltb z (by decide)))
  obtain ⟨T58, h58, L58, X58, e58, N58, K58, Vc58, st58⟩ := cpA X56 hx hZ hown (hw _ (oG (i := 81) rfl)) (hw _ (oG (i := 84) rfl)) (hw _ (oG (i := 82) rfl)) (hw _ (oG (i := 83) rfl)) e56q (us := []) Vr58 Vk58 (Or.inl ⟨rfl, rfl⟩) (by decide) ps_59.1 (by decide) (by decide) (by show _ + 0 ≤ _; exact hps58) rfl (by show _ + 0 ≤ _; exact Nat.le_trans hps58 hlk58) N56 g_o2 (g := (mkF m 63 #[.val (.ref o0), .val (.ref o1), .val (.ref o2), .val (.int p3), .val (.int ((p3 + (1:Int32)) + (1:Int32))), .val (.int (2:Int32)), .val (.int (0:Int32))] [(.int (0:Int32)), (.int ((p3 + (1:Int32)) + (1:Int32))), (.ref o2), (.int (0:Int32)), (.ref br)])) rfl (by rw [hml]; rfl) (rest := []) rfl (hb hby d9_63) (by decide) (W := 0) (by show 2 * 0 + _ ≤ _; exact Nat.le_of_eq rfl) (by decide)
  have Ac58 : own_Arf Z h58 o2 k2 .byte (65536:Int32) (.int (0:Int32)) := ⟨_, own_cplen hlk58 hps58 rfl, Vc58⟩
  have Va_60 : Arv Z h58 o1 k1 .int (4:Int32) [] (.int (0:Int32)) := (Va_45.keep K58 (ninS ne_12 nin0))
  obtain ⟨cl61, Ar61, -, S61, N61', -, -⟩ := id Va_60
  obtain ⟨vs62, hl62, cl62, Ar62, q62, S62, N62', H62, G62⟩ := id Ac58
  have ps_63 : ¬ ((p3 + (1:Int32)) + (1:Int32)) < (0:Int32) ∧ ¬ (8:Int32) < ((p3 + (1:Int32)) + (1:Int32)) := (own_up (own_up hp0 hp6 (m := (7:Int32)) (by decide) (by decide)).1 (own_up hp0 hp6 (m := (7:Int32)) (by decide) (by decide)).2 (m := (8:Int32)) (by decide) (by decide))
  have hin62 : ¬ (((p3 + (1:Int32)) + (1:Int32)) < 0 ∨ cl62.slots.size ≤ (((p3 + (1:Int32)) + (1:Int32))).toNatClampNeg) := inb_of S62 (own_px ps_63.1 (fun z => ps_63.2 (own_ltb z (by decide))))
  obtain ⟨T64, h64, X64, e64, W64, st64⟩ := stB X58 hx hZ e58 Ar62 (j := ((p3 + (1:Int32)) + (1:Int32))) hin62 (g := (mkF m 25 #[.val (.ref o0), .val (.ref o1), .val (.ref o2), .val (.int p3), .val (.int (((p3 + (1:Int32)) + (1:Int32)) + (1:Int32))), .val (.int (3:Int32)), .val (.int (0:Int32))] [(.int (0:Int32)), (.int ((p3 + (1:Int32)) + (1:Int32))), (.ref o2)])) rfl rfl (hb hby d9_25)
  have As64 : own_Arf Z h64 o2 k2 .byte (65536:Int32) (.int (0:Int32)) := own_arfW hl62 Ar62 q62 S62 N62' H62 G62 (fits_nar_byte _) W64 hin62
  have N64 := Fr.snoc X64 N58 g_o2
  have Ff_65 : Fld Z h64 o0 "com/example/tavola/tavola/profile/CsvReader" "ends" "[I" (.ref bn) := ((Ff_43.keep K58 (ninS ne_18 nin0)).other W64 (Or.inl ne_18))
  obtain ⟨T66, X66, e66, st66⟩ := getF X64 hx hZ hown (host := "") (Or.inl (hw _ (oG (i := 19) rfl))) Via.refl e64 Ff_65 (g := (mkF m 27 #[.val (.ref o0), .val (.ref o1), .val (.ref o2), .val (.int p3), .val (.int (((p3 + (1:Int32)) + (1:Int32)) + (1:Int32))), .val (.int (3:Int32)), .val (.int (0:Int32))] [(.ref o0)])) rfl rfl (hb hby d9_27)
  have Va_67 : Arv Z h64 o1 k1 .int (4:Int32) [] (.int (0:Int32)) := (Va_60.other W64 ne_12)
  obtain ⟨cl68, Ar68, q68, S68, N68', H68, G68⟩ := id Va_67
  have hin68 : ¬ ((3:Int32) < 0 ∨ cl68.slots.size ≤ ((3:Int32)).toNatClampNeg) := inb_of S68 ⟨by decide, by decide⟩
  have Va_69 : Arv Z h64 bn kn .int (16:Int32) [] (.int (0:Int32)) := ((Va_47.keep K58 (ninS ne_23 nin0)).other W64 ne_23)
  obtain ⟨cl70, Ar70, q70, S70, N70', H70, G70⟩ := id Va_69
  have hin70 : ¬ ((0:Int32) < 0 ∨ cl70.slots.size ≤ ((0:Int32)).toNatClampNeg) := inb_of S70 ⟨by decide, by decide⟩
  obtain ⟨cl71, Ar71, q71, S71, N71', H71, G71⟩ := id Va_67
  have hin71 : ¬ ((3:Int32) < 0 ∨ cl71.slots.size ≤ ((3:Int32)).toNatClampNeg) := inb_of S71 ⟨by decide, by decide⟩
  have Zz_73 : n0 ≤ h64.size := (Nat.le_trans (Nat.le_trans Zz_51 K58.1) (Keep.of_wr W64).1)
  have Ee_74 : Exa Z h64 o0 "com/example/tavola/tavola/profile/CsvReader" := ((Ee_52.keep K58).wr W64)
  obtain ⟨cq72, q72, q72'⟩ := (Ee_74).cell
  obtain ⟨_, _, ⟨T72, L72, k72, n72⟩, -, X72, ⟨Lc72, hQ72, l72, y72, z72⟩, st72⟩ := X66.privateBack hx (y := (⟨"com/example/tavola/tavola/profile/CsvReader", "start", "(I)I"⟩ : MethodName)) hown (mvT hZ (hw _ (oG (i := 70) rfl))) (mvT hZ (hw _ (oG (i := 71) rfl))) (own_selP hZ (hw _ (oG (i := 3) rfl)) (hw _ (oG (i := 71) rfl)) (hw _ (oG (i := 72) rfl)) (by decide)) (Cond.privateMethod_at (mvP hZ (hw _ (oG (i := 72) rfl)) (args := #[]))) (mvT hZ (hw _ (oG (i := 73) rfl))) (by decide) (backOf (W := 1) (rm8 l Z aw hw [] o0 h64 n0 Zz_73) hZ (hw _ (oG (i := 73) rfl)) (hw _ (oG (i := 4) rfl)) (by decide) (by decide)) (g := (mkF m 40 #[.val (.ref o0), .val (.ref o1), .val (.ref o2), .val (.int p3), .val (.int (((p3 + (1:Int32)) + (1:Int32)) + (1:Int32))), .val (.int (3:Int32)), .val (.int (0:Int32))] [(.int (0:Int32)), (.ref o0), (.int (0:Int32))])) rfl (by rw [hml]; rfl) (Steps.refl _) (a := o0) (by rw [e66]; exact q72) q72' (argsL := [(.int (0:Int32))]) (rest := [(.int (0:Int32))]) (lenOf pd_rm9_4_0 rfl) rfl (by show 2 * 0 + _ ≤ _; exact Nat.le_of_eq rfl) (hb hby d9_40) (fun _ _ => ⟨rfl, e66, (by decide : 0 + 0 ≤ _), (by decide : 0 + 0 ≤ _)⟩)
  dsimp only [Pt.U, Pt.locs, Pt.cells, Pt.slots] at X72 l72 y72 z72 st72 hQ72
  subst l72 y72 z72
  obtain ⟨rfl, N72q, e72q⟩ := hQ72
  have N72 := Fr.app N64 N72q
  have Ff_75 : Fld Z h64 o0 "com/example/tavola/tavola/profile/CsvReader" "record" "[B" (.ref br) := ((Ff_53.keep K58 (ninS ne_18 nin0)).other W64 (Or.inl ne_18))
  obtain ⟨T76, X76, e76, st76⟩ := getF X72 hx hZ hown (host := "") (Or.inl (hw _ (oG (i := 17) rfl))) Via.refl e72q Ff_75 (g := (mkF m 47 #[.val (.ref o0), .val (.ref o1), .val (.ref o2), .val (.int p3), .val (.int (((p3 + (1:Int32)) + (1:Int32)) + (1:Int32))), .val (.int (3:Int32)), .val (.int (0:Int32))] [(.ref o0)])) rfl rfl (hb hby d9_47)
  obtain ⟨cl77, Ar77, q77, S77, N77', H77, G77⟩ := id Va_67
  have hin77 : ¬ ((3:Int32) < 0 ∨ cl77.slots.size ≤ ((3:Int32)).toNatClampNeg) := inb_of S77 ⟨by decide, by decide⟩
  obtain ⟨cq78, q78, q78'⟩ := (Ee_74).cell
  obtain ⟨_, _, ⟨T78, L78, k78, n78⟩, -, X78, ⟨Lc78, hQ78, l78, y78, z78⟩, st78⟩ := X76.privateBack hx (y := (⟨"com/example/tavola/tavola/profile/CsvReader", "start", "(I)I"⟩ : MethodName)) hown (mvT hZ (hw _ (oG (i := 70) rfl))) (mvT hZ (hw _ (oG (i := 71) rfl))) (own_selP hZ (hw _ (oG (i := 3) rfl)) (hw _ (oG (i := 71) rfl)) (hw _ (oG (i := 72) rfl)) (by decide)) (Cond.privateMethod_at (mvP hZ (hw _ (oG (i := 72) rfl)) (args := #[]))) (mvT hZ (hw _ (oG (i := 73) rfl))) (by decide) (backOf (W := 1) (rm8 l Z aw hw [] o0 h64 n0 Zz_73) hZ (hw _ (oG (i := 73) rfl)) (hw _ (oG (i := 4) rfl)) (by decide) (by decide)) (g := (mkF m 55 #[.val (.ref o0), .val (.ref o1), .val (.ref o2), .val (.int p3), .val (.int (((p3 + (1:Int32)) + (1:Int32)) + (1:Int32))), .val (.int (3:Int32)), .val (.int (0:Int32))] [(.int (0:Int32)), (.ref o0), (.ref br)])) rfl (by rw [hml]; rfl) (Steps.refl _) (a := o0) (by rw [e76]; exact q78) q78' (argsL := [(.int (0:Int32))]) (rest := [(.ref br)]) (lenOf pd_rm9_4_0 rfl) rfl (by show 2 * 0 + _ ≤ _; exact Nat.le_of_eq rfl) (hb hby d9_55) (fun _ _ => ⟨rfl, e76, (by decide : 0 + 0 ≤ _), (by decide : 0 + 0 ≤ _)⟩)
  dsimp only [Pt.U, Pt.locs, Pt.cells, Pt.slots] at X78 l78 y78 z78 st78 hQ78
  subst l78 y78 z78
  obtain ⟨rfl, N78q, e78q⟩ := hQ78
  have N78 := Fr.app N72 N78q
  have Aa_79 : own_Arf Z h64 br kr .byte (256:Int32) (.int (0:Int32)) := (own_arfO (own_arfK Aa_57 K58 (ninS ne_34 nin0)) W64 ne_34)
  obtain ⟨vr80, hlr80, Vr80⟩ := id Aa_79
  obtain ⟨vk80, hlk80, Vk80⟩ := id As64
  have ps_81 : ¬ (((p3 + (1:Int32)) + (1:Int32)) + (1:Int32)) < (0:Int32) ∧ ¬ (9:Int32) < (((p3 + (1:Int32)) + (1:Int32)) + (1:Int32)) := (own_up (own_up (own_up hp0 hp6 (m := (7:Int32)) (by decide) (by decide)).1 (own_up hp0 hp6 (m := (7:Int32)) (by decide) (by decide)).2 (m := (8:Int32)) (by decide) (by decide)).1 (own_up (own_up hp0 hp6 (m := (7:Int32)) (by decide) (by decide)).1 (own_up hp0 hp6 (m := (7:Int32)) (by decide) (by decide)).2 (m := (8:Int32)) (by decide) (by decide)).2 (m := (9:Int32)) (by decide) (by decide))
  have hps80 := own_nat ps_81.1 (fun z => ps_81.2 (own_ltb z (by decide)))
  obtain ⟨T80, h80, L80, X80, e80, N80, K80, Vc80, st80⟩ := cpA X78 hx hZ hown (hw _ (oG (i := 81) rfl)) (hw _ (oG (i := 84) rfl)) (hw _ (oG (i := 82) rfl)) (hw _ (oG (i := 83) rfl)) e78q (us := []) Vr80 Vk80 (Or.inl ⟨rfl, rfl⟩) (by decide) ps_81.1 (by decide) (by decide) (by show _ + 0 ≤ _; exact hps80) rfl (by show _ + 0 ≤ _; exact Nat.le_trans hps80 hlk80) N78 g_o2 (g := (mkF m 63 #[.val (.ref o0), .val (.ref o1), .val (.ref o2), .val (.int p3), .val (.int (((p3 + (1:Int32)) + (1:Int32)) + (1:Int32))), .val (.int (3:Int32)), .val (.int (0:Int32))] [(.int (0:Int32)), (.int (((p3 + (1:Int32)) + (1:Int32)) + (1:Int32))), (.ref o2), (.int (0:Int32)), (.ref br)])) rfl (by rw [hml]; rfl) (rest := []) rfl (hb hby d9_63) (by decide) (W := 0) (by show 2 * 0 + _ ≤ _; exact Nat.le_of_eq rfl) (by decide)
  have Ac80 : own_Arf Z h80 o2 k2 .byte (65536:Int32) (.int (0:Int32)) := ⟨_, own_cplen hlk80 hps80 rfl, Vc80⟩
  have Va_82 : Arv Z h80 o1 k1 .int (4:Int32) [] (.int (0:Int32)) := (Va_67.keep K80 (ninS ne_12 nin0))
  obtain ⟨cl83, Ar83, -, S83, N83', -, -⟩ := id Va_82
  have Kk_84 : Keep h0 h80 [o2] := ((((((((Keep.refl h0 [o2]).trans K10 (allS (Or.inl (oG (i := 0) rfl)) all0)).wr W17 (Or.inl (oG (i := 0) rfl))).trans K36 (allS (Or.inl (oG (i := 0) rfl)) all0)).wr W42 (Or.inl (oG (i := 0) rfl))).trans K58 (allS (Or.inl (oG (i := 0) rfl)) all0)).wr W64 (Or.inl (oG (i := 0) rfl))).trans K80 (allS (Or.inl (oG (i := 0) rfl)) all0))
  obtain ⟨fs, hr, hrun, hended, hW, hsame⟩ := X80.leave (v := none) (fun _ => rfl)
  refine ⟨_, _, pre0 _ ?_, hrun, hended, _, _, rfl, ?_, ⟨_, rfl⟩, hW, hsame.mono (by decide) (by decide)⟩
  · show Steps p.tables e below (s₁.setTop (mkF m 0 #[.val (.ref o0), .val (.ref o1), .val (.ref o2), .val (.int p3), .unset, .unset, .unset] [])) _
    refine XS.iloadN X0.here hx rfl (hb hby d9_0) rfl ?_
    refine XS.istore X0.here hx rfl (hb hby d9_1) rfl (l' := #[.val (.ref o0), .val (.ref o1), .val (.ref o2), .val (.int p3), .val (.int p3), .unset, .unset]) rfl ?_
    refine XS.iconst X0.here hx rfl (hb hby d9_3) ?_
    refine XS.istore X0.here hx rfl (hb hby d9_4) rfl (l' := #[.val (.ref o0), .val (.ref o1), .val (.ref o2), .val (.int p3), .val (.int p3), .val (.int (0:Int32)), .unset]) rfl ?_
    refine XS.iload X0.here hx rfl (hb hby d9_6) rfl ?_
    refine XS.aloadN X0.here hx rfl (hb hby d9_8) rfl rfl ?_
    show Steps p.tables e below (s₁.setTop (mkF m 9 #[.val (.ref o0), .val (.ref o1), .val (.ref o2), .val (.int p3), .val (.int p3), .val (.int (0:Int32)), .unset] [(.ref o1), (.int (0:Int32))])) _
    refine X0.arraylength hx (by rw [e0]; exact Ar1.1) (State.isArrayOf_alike hZ.alike Ar1.2.1) (g := (mkF m 9 #[.val (.ref o0), .val (.ref o1), .val (.ref o2), .val (.int p3), .val (.int p3), .val (.int (0:Int32)), .unset] [(.ref o1), (.int (0:Int32))])) rfl rfl (hb hby d9_9) _ ?_
    rw [len_of S1 N1']
    show Steps p.tables e below (s₁.setTop (mkF m 10 #[.val (.ref o0), .val (.ref o1), .val (.ref o2), .val (.int p3), .val (.int p3), .val (.int (0:Int32)), .unset] [(.int (4:Int32)), (.int (0:Int32))])) _
    refine XS.icmpNo X0.here hx rfl (hb hby d9_10) rfl (tlt ((by decide) : (0:Int32) < (4:Int32))).2.1 ?_
    refine XS.iload X0.here hx rfl (hb hby d9_13) rfl ?_
    refine XS.ifYes X0.here hx rfl (pc0 := 15) (pc' := 26) rfl (hb hby d9_15) rfl ((if0 _ _).trans (flt ((by decide) : ¬ ((0:Int32) < (0:Int32)))).2.2.2) (by decide) (by decide) ?_
    refine XS.aloadN X0.here hx rfl (hb hby d9_26) rfl rfl ?_
    show Steps p.tables e below (s₁.setTop (mkF m 27 #[.val (.ref o0), .val (.ref o1), .val (.ref o2), .val (.int p3), .val (.int p3), .val (.int (0:Int32)), .unset] [(.ref o0)])) _
    refine st2 _ ?_
    show Steps p.tables e below (T2.setTop (mkF m 30 #[.val (.ref o0), .val (.ref o1), .val (.ref o2), .val (.int p3), .val (.int p3), .val (.int (0:Int32)), .unset] [(.ref bn)])) _
    refine XS.aloadN X2.here hx rfl (hb hby d9_30) rfl rfl ?_
    refine XS.iload X2.here hx rfl (hb hby d9_31) rfl ?_
    show Steps p.tables e below (T2.setTop (mkF m 33 #[.val (.ref o0), .val (.ref o1), .val (.ref o2), .val (.int p3), .val (.int p3), .val (.int (0:Int32)), .unset] [(.int (0:Int32)), (.ref o1), (.ref bn)])) _
    refine X2.iaload hx (j := (0:Int32)) (v := (.int (0:Int32))) (by rw [e2]; exact Ar3.1) (State.isArrayOf_alike hZ.alike Ar3.2.1) Ar3.2.2 hin3 (H3.at hin3 rfl) (g := (mkF m 33 #[.val (.ref o0), .val (.ref o1), .val (.ref o2), .val (.int p3), .val (.int p3), .val (.int (0:Int32)), .unset] [(.int (0:Int32)), (.ref o1), (.ref bn)])) rfl rfl (hb hby d9_33) _ ?_
    show Steps p.tables e below (T2.setTop (mkF m 34 #[.val (.ref o0), .val (.ref o1), .val (.ref o2), .val (.int p3), .val (.int p3), .val (.int (0:Int32)), .unset] [(.int (0:Int32)), (.ref bn)])) _
    refine X2.iaload hx (j := (0:Int32)) (v := (.int (0:Int32))) (by rw [e2]; exact Ar4.1) (State.isArrayOf_alike hZ.alike Ar4.2.1) Ar4.2.2 hin4 (H4.at hin4 rfl) (g := (mkF m 34 #[.val (.ref o0), .val (.ref o1), .val (.ref o2), .val (.int p3), .val (.int p3), .val (.int (0:Int32)), .unset] [(.int (0:Int32)), (.ref bn)])) rfl rfl (hb hby d9_34) _ ?_
    show Steps p.tables e below (T2.setTop (mkF m 35 #[.val (.ref o0), .val (.ref o1), .val (.ref o2), .val (.int p3), .val (.int p3), .val (.int (0:Int32)), .unset] [(.int (0:Int32))])) _
    refine XS.aloadN X2.here hx rfl (hb hby d9_35) rfl rfl ?_
    refine XS.aloadN X2.here hx rfl (hb hby d9_36) rfl rfl ?_
    refine XS.iload X2.here hx rfl (hb hby d9_37) rfl ?_
    show Steps p.tables e below (T2.setTop (mkF m 39 #[.val (.ref o0), .val (.ref o1), .val (.ref o2), .val (.int p3), .val (.int p3), .val (.int (0:Int32)), .unset] [(.int (0:Int32)), (.ref o1), (.ref o0), (.int (0:Int32))])) _
    refine X2.iaload hx (j := (0:Int32)) (v := (.int (0:Int32))) (by rw [e2]; exact Ar5.1) (State.isArrayOf_alike hZ.alike Ar5.2.1) Ar5.2.2 hin5 (H5.at hin5 rfl) (g := (mkF m 39 #[.val (.ref o0), .val (.ref o1), .val (.ref o2), .val (.int p3), .val (.int p3), .val (.int (0:Int32)), .unset] [(.int (0:Int32)), (.ref o1), (.ref o0), (.int (0:Int32))])) rfl rfl (hb hby d9_39) _ ?_
    show Steps p.tables e below (T2.setTop (mkF m 40 #[.val (.ref o0), .val (.ref o1), .val (.ref o2), .val (.int p3), .val (.int p3), .val (.int (0:Int32)), .unset] [(.int (0:Int32)), (.ref o0), (.int (0:Int32))])) _
    refine st6.trans ?_
    show Steps p.tables e below (T6.setTop (mkF m 43 #[.val (.ref o0), .val (.ref o1), .val (.ref o2), .val (.int p3), .val (.int p3), .val (.int (0:Int32)), .unset] [(.int (0:Int32)), (.int (0:Int32))])) _
    refine XS.isub X6.here hx rfl (hb hby d9_43) rfl ?_
    rw [show ((0:Int32) - (0:Int32)) = (0:Int32) from by decide]
    show Steps p.tables e below (T6.setTop (mkF m 44 #[.val (.ref o0), .val (.ref o1), .val (.ref o2), .val (.int p3), .val (.int p3), .val (.int (0:Int32)), .unset] [(.int (0:Int32))])) _
    refine XS.istore X6.here hx rfl (hb hby d9_44) rfl (l' := #[.val (.ref o0), .val (.ref o1), .val (.ref o2), .val (.int p3), .val (.int p3), .val (.int (0:Int32)), .val (.int (0:Int32))]) rfl ?_
    refine XS.aloadN X6.here hx rfl (hb hby d9_46) rfl rfl ?_
    show Steps p.tables e below (T6.setTop (mkF m 47 #[.val (.ref o0), .val (.ref o1), .val (.ref o2), .val (.int p3), .val (.int p3), .val (.int (0:Int32)), .val (.int (0:Int32))] [(.ref o0)])) _
    refine st7 _ ?_
    show Steps p.tables e below (T7.setTop (mkF m 50 #[.val (.ref o0), .val (.ref o1), .val (.ref o2), .val (.int p3), .val (.int p3), .val (.int (0:Int32)), .val (.int (0:Int32))] [(.ref br)])) _
    refine XS.aloadN X7.here hx rfl (hb hby d9_50) rfl rfl ?_
    refine XS.aloadN X7.here hx rfl (hb hby d9_51) rfl rfl ?_
    refine XS.iload X7.here hx rfl (hb hby d9_52) rfl ?_
    show Steps p.tables e below (T7.setTop (mkF m 54 #[.val (.ref o0), .val (.ref o1), .val (.ref o2), .val (.int p3), .val (.int p3), .val (.int (0:Int32)), .val (.int (0:Int32))] [(.int (0:Int32)), (.ref o1), (.ref o0), (.ref br)])) _
    refine X7.iaload hx (j := (0:Int32)) (v := (.int (0:Int32))) (by rw [e7]; exact Ar8.1) (State.isArrayOf_alike hZ.alike Ar8.2.1) Ar8.2.2 hin8 (H8.at hin8 rfl) (g := (mkF m 54 #[.val (.ref o0), .val (.ref o1), .val (.ref o2), .val (.int p3), .val (.int p3), .val (.int (0:Int32)), .val (.int (0:Int32))] [(.int (0:Int32)), (.ref o1), (.ref o0), (.ref br)])) rfl rfl (hb hby d9_54) _ ?_
    show Steps p.tables e below (T7.setTop (mkF m 55 #[.val (.ref o0), .val (.ref o1), .val (.ref o2), .val (.int p3), .val (.int p3), .val (.int (0:Int32)), .val (.int (0:Int32))] [(.int (0:Int32)), (.ref o0), (.ref br)])) _
    refine st9.trans ?_
    show Steps p.tables e below (T9.setTop (mkF m 58 #[.val (.ref o0), .val (.ref o1), .val (.ref o2), .val (.int p3), .val (.int p3), .val (.int (0:Int32)), .val (.int (0:Int32))] [(.int (0:Int32)), (.ref br)])) _
    refine XS.aloadN X9.here hx rfl (hb hby d9_58) rfl rfl ?_
    refine XS.iload X9.here hx rfl (hb hby d9_59) rfl ?_
    refine XS.iload X9.here hx rfl (hb hby d9_61) rfl ?_
    show Steps p.tables e below (T9.setTop (mkF m 63 #[.val (.ref o0), .val (.ref o1), .val (.ref o2), .val (.int p3), .val (.int p3), .val (.int (0:Int32)), .val (.int (0:Int32))] [(.int (0:Int32)), (.int p3), (.ref o2), (.int (0:Int32)), (.ref br)])) _
    refine st10 _ ?_
    show Steps p.tables e below (T10.setTop (mkF m 66 #[.val (.ref o0), .val (.ref o1), .val (.ref o2), .val (.int p3), .val (.int p3), .val (.int (0:Int32)), .val (.int (0:Int32))] [])) _
    refine XS.iload X10.here hx rfl (hb hby d9_66) rfl ?_
    refine XS.iload X10.here hx rfl (hb hby d9_68) rfl ?_
    show Steps p.tables e below (T10.setTop (mkF m 70 #[.val (.ref o0), .val (.ref o1), .val (.ref o2), .val (.int p3), .val (.int p3), .val (.int (0:Int32)), .val (.int (0:Int32))] [(.int (0:Int32)), (.int p3)])) _
    refine XS.iadd X10.here hx rfl (hb hby d9_70) rfl ?_
    rw [Int32.add_zero]
    show Steps p.tables e below (T10.setTop (mkF m 71 #[.val (.ref o0), .val (.ref o1), .val (.ref o2), .val (.int p3), .val (.int p3), .val (.int (0:Int32)), .val (.int (0:Int32))] [(.int p3)])) _
    refine XS.istore X10.here hx rfl (hb hby d9_71) rfl (l' := #[.val (.ref o0), .val (.ref o1), .val (.ref o2), .val (.int p3), .val (.int p3), .val (.int (0:Int32)), .val (.int (0:Int32))]) rfl ?_
    refine XS.iinc X10.here hx rfl (hb hby d9_73) rfl (l' := #[.val (.ref o0), .val (.ref o1), .val (.ref o2), .val (.int p3), .val (.int p3), .val (.int (1:Int32)), .val (.int (0:Int32))]) rfl ?_
    refine XS.goto X10.here hx rfl (pc0 := 76) (pc' := 6) rfl (hb hby d9_76) (by decide) (by decide) ?_
    refine XS.iload X10.here hx rfl (hb hby d9_6) rfl ?_
    refine XS.aloadN X10.here hx rfl (hb hby d9_8) rfl rfl ?_
    show Steps p.tables e below (T10.setTop (mkF m 9 #[.val (.ref o0), .val (.ref o1), .val (.ref o2), .val (.int p3), .val (.int p3), .val (.int (1:Int32)), .val (.int (0:Int32))] [(.ref o1), (.int (1:Int32))])) _
    refine X10.arraylength hx (by rw [e10]; exact Ar14.1) (State.isArrayOf_alike hZ.alike Ar14.2.1) (g := (mkF m 9 #[.val (.ref o0), .val (.ref o1), .val (.ref o2), .val (.int p3), .val (.int p3), .val (.int (1:Int32)), .val (.int (0:Int32))] [(.ref o1), (.int (1:Int32))])) rfl rfl (hb hby d9_9) _ ?_
    rw [len_of S14 N14']
    show Steps p.tables e below (T10.setTop (mkF m 10 #[.val (.ref o0), .val (.ref o1), .val (.ref o2), .val (.int p3), .val (.int p3), .val (.int (1:Int32)), .val (.int (0:Int32))] [(.int (4:Int32)), (.int (1:Int32))])) _
    refine XS.icmpNo X10.here hx rfl (hb hby d9_10) rfl (tlt ((by decide) : (1:Int32) < (4:Int32))).2.1 ?_
    refine XS.iload X10.here hx rfl (hb hby d9_13) rfl ?_
    refine XS.ifNo X10.here hx rfl (hb hby d9_15) rfl ((if0 _ _).trans (tlt ((by decide) : (0:Int32) < (1:Int32))).2.2.2) ?_
    refine XS.aloadN X10.here hx rfl (hb hby d9_18) rfl rfl ?_
    refine XS.iload X10.here hx rfl (hb hby d9_19) rfl ?_
    refine XS.iinc X10.here hx rfl (hb hby d9_21) rfl (l' := #[.val (.ref o0), .val (.ref o1), .val (.ref o2), .val (.int p3), .val (.int (p3 + (1:Int32))), .val (.int (1:Int32)), .val (.int (0:Int32))]) rfl ?_
    refine XS.iconst X10.here hx rfl (hb hby d9_24) ?_
    show Steps p.tables e below (T10.setTop (mkF m 25 #[.val (.ref o0), .val (.ref o1), .val (.ref o2), .val (.int p3), .val (.int (p3 + (1:Int32))), .val (.int (1:Int32)), .val (.int (0:Int32))] [(.int (0:Int32)), (.int p3), (.ref o2)])) _
    refine st17 _ ?_
    show Steps p.tables e below (T17.setTop (mkF m 26 #[.val (.ref o0), .val (.ref o1), .val (.ref o2), .val (.int p3), .val (.int (p3 + (1:Int32))), .val (.int (1:Int32)), .val (.int (0:Int32))] [])) _
    refine XS.aloadN X17.here hx rfl (hb hby d9_26) rfl rfl ?_
    show Steps p.tables e below (T17.setTop (mkF m 27 #[.val (.ref o0), .val (.ref o1), .val (.ref o2), .val (.int p3), .val (.int (p3 + (1:Int32))), .val (.int (1:Int32)), .val (.int (0:Int32))] [(.ref o0)])) _
    refine st20 _ ?_
    show Steps p.tables e below (T20.setTop (mkF m 30 #[.val (.ref o0), .val (.ref o1), .val (.ref o2), .val (.int p3), .val (.int (p3 + (1:Int32))), .val (.int (1:Int32)), .val (.int (0:Int32))] [(.ref bn)])) _
    refine XS.aloadN X20.here hx rfl (hb hby d9_30) rfl rfl ?_
    refine XS.iload X20.here hx rfl (hb hby d9_31) rfl ?_
    show Steps p.tables e below (T20.setTop (mkF m 33 #[.val (.ref o0), .val (.ref o1), .val (.ref o2), .val (.int p3), .val (.int (p3 + (1:Int32))), .val (.int (1:Int32)), .val (.int (0:Int32))] [(.int (1:Int32)), (.ref o1), (.ref bn)])) _
    refine X20.iaload hx (j := (1:Int32)) (v := (.int (0:Int32))) (by rw [e20]; exact Ar22.1) (State.isArrayOf_alike hZ.alike Ar22.2.1) Ar22.2.2 hin22 (H22.at hin22 rfl) (g := (mkF m 33 #[.val (.ref o0), .val (.ref o1), .val (.ref o2), .val (.int p3), .val (.int (p3 + (1:Int32))), .val (.int (1:Int32)), .val (.int (0:Int32))] [(.int (1:Int32)), (.ref o1), (.ref bn)])) rfl rfl (hb hby d9_33) _ ?_
    show Steps p.tables e below (T20.setTop (mkF m 34 #[.val (.ref o0), .val (.ref o1), .val (.ref o2), .val (.int p3), .val (.int (p3 + (1:Int32))), .val (.int (1:Int32)), .val (.int (0:Int32))] [(.int (0:Int32)), (.ref bn)])) _
    refine X20.iaload hx (j := (0:Int32)) (v := (.int (0:Int32))) (by rw [e20]; exact Ar25.1) (State.isArrayOf_alike hZ.alike Ar25.2.1) Ar25.2.2 hin25 (H25.at hin25 rfl) (g := (mkF m 34 #[.val (.ref o0), .val (.ref o1), .val (.ref o2), .val (.int p3), .val (.int (p3 + (1:Int32))), .val (.int (1:Int32)), .val (.int (0:Int32))] [(.int (0:Int32)), (.ref bn)])) rfl rfl (hb hby d9_34) _ ?_
    show Steps p.tables e below (T20.setTop (mkF m 35 #[.val (.ref o0), .val (.ref o1), .val (.ref o2), .val (.int p3), .val (.int (p3 + (1:Int32))), .val (.int (1:Int32)), .val (.int (0:Int32))] [(.int (0:Int32))])) _
    refine XS.aloadN X20.here hx rfl (hb hby d9_35) rfl rfl ?_
    refine XS.aloadN X20.here hx rfl (hb hby d9_36) rfl rfl ?_
    refine XS.iload X20.here hx rfl (hb hby d9_37) rfl ?_
    show Steps p.tables e below (T20.setTop (mkF m 39 #[.val (.ref o0), .val (.ref o1), .val (.ref o2), .val (.int p3), .val (.int (p3 + (1:Int32))), .val (.int (1:Int32)), .val (.int (0:Int32))] [(.int (1:Int32)), (.ref o1), (.ref o0), (.int (0:Int32))])) _
    refine X20.iaload hx (j := (1:Int32)) (v := (.int (0:Int32))) (by rw [e20]; exact Ar26.1) (State.isArrayOf_alike hZ.alike Ar26.2.1) Ar26.2.2 hin26 (H26.at hin26 rfl) (g := (mkF m 39 #[.val (.ref o0), .val (.ref o1), .val (.ref o2), .val (.int p3), .val (.int (p3 + (1:Int32))), .val (.int (1:Int32)), .val (.int (0:Int32))] [(.int (1:Int32)), (.ref o1), (.ref o0), (.int (0:Int32))])) rfl rfl (hb hby d9_39) _ ?_
    show Steps p.tables e below (T20.setTop (mkF m 40 #[.val (.ref o0), .val (.ref o1), .val (.ref o2), .val (.int p3), .val (.int (p3 + (1:Int32))), .val (.int (1:Int32)), .val (.int (0:Int32))] [(.int (0:Int32)), (.ref o0), (.int (0:Int32))])) _
    refine st27.trans ?_
    show Steps p.tables e below (T27.setTop (mkF m 43 #[.val (.ref o0), .val (.ref o1), .val (.ref o2), .val (.int p3), .val (.int (p3 + (1:Int32))), .val (.int (1:Int32)), .val (.int (0:Int32))] [(.int (0:Int32)), (.int (0:Int32))])) _
    refine XS.isub X27.here hx rfl (hb hby d9_43) rfl ?_
    rw [show ((0:Int32) - (0:Int32)) = (0:Int32) from by decide]
    show Steps p.tables e below (T27.setTop (mkF m 44 #[.val (.ref o0), .val (.ref o1), .val (.ref o2), .val (.int p3), .val (.int (p3 + (1:Int32))), .val (.int (1:Int32)), .val (.int (0:Int32))] [(.int (0:Int32))])) _
    refine XS.istore X27.here hx rfl (hb hby d9_44) rfl (l' := #[.val (.ref o0), .val (.ref o1), .val (.ref o2), .val (.int p3), .val (.int (p3 + (1:Int32))), .val (.int (1:Int32)), .val (.int (0:Int32))]) rfl ?_
    refine XS.aloadN X27.here hx rfl (hb hby d9_46) rfl rfl ?_
    show Steps p.tables e below (T27.setTop (mkF m 47 #[.val (.ref o0), .val (.ref o1), .val (.ref o2), .val (.int p3), .val (.int (p3 + (1:Int32))), .val (.int (1:Int32)), .val (.int (0:Int32))] [(.ref o0)])) _
    refine st31 _ ?_
    show Steps p.tables e below (T31.setTop (mkF m 50 #[.val (.ref o0), .val (.ref o1), .val (.ref o2), .val (.int p3), .val (.int (p3 + (1:Int32))), .val (.int (1:Int32)), .val (.int (0:Int32))] [(.ref br)])) _
    refine XS.aloadN X31.here hx rfl (hb hby d9_50) rfl rfl ?_
    refine XS.aloadN X31.here hx rfl (hb hby d9_51) rfl rfl ?_
    refine XS.iload X31.here hx rfl (hb hby d9_52) rfl ?_
    show Steps p.tables e below (T31.setTop (mkF m 54 #[.val (.ref o0), .val (.ref o1), .val (.ref o2), .val (.int p3), .val (.int (p3 + (1:Int32))), .val (.int (1:Int32)), .val (.int (0:Int32))] [(.int (1:Int32)), (.ref o1), (.ref o0), (.ref br)])) _
    refine X31.iaload hx (j := (1:Int32)) (v := (.int (0:Int32))) (by rw [e31]; exact Ar32.1) (State.isArrayOf_alike hZ.alike Ar32.2.1) Ar32.2.2 hin32 (H32.at hin32 rfl) (g := (mkF m 54 #[.val (.ref o0), .val (.ref o1), .val (.ref o2), .val (.int p3), .val (.int (p3 + (1:Int32))), .val (.int (1:Int32)), .val (.int (0:Int32))] [(.int (1:Int32)), (.ref o1), (.ref o0), (.ref br)])) rfl rfl (hb hby d9_54) _ ?_
    show Steps p.tables e below (T31.setTop (mkF m 55 #[.val (.ref o0), .val (.ref o1), .val (.ref o2), .val (.int p3), .val (.int (p3 + (1:Int32))), .val (.int (1:Int32)), .val (.int (0:Int32))] [(.int (0:Int32)), (.ref o0), (.ref br)])) _
    refine st33.trans ?_
    show Steps p.tables e below (T33.setTop (mkF m 58 #[.val (.ref o0), .val (.ref o1), .val (.ref o2), .val (.int p3), .val (.int (p3 + (1:Int32))), .val (.int (1:Int32)), .val (.int (0:Int32))] [(.int (0:Int32)), (.ref br)])) _
    refine XS.aloadN X33.here hx rfl (hb hby d9_58) rfl rfl ?_
    refine XS.iload X33.here hx rfl (hb hby d9_59) rfl ?_
    refine XS.iload X33.here hx rfl (hb hby d9_61) rfl ?_
    show Steps p.tables e below (T33.setTop (mkF m 63 #[.val (.ref o0), .val (.ref o1), .val (.ref o2), .val (.int p3), .val (.int (p3 + (1:Int32))), .val (.int (1:Int32)), .val (.int (0:Int32))] [(.int (0:Int32)), (.int (p3 + (1:Int32))), (.ref o2), (.int (0:Int32)), (.ref br)])) _
    refine st36 _ ?_
    show Steps p.tables e below (T36.setTop (mkF m 66 #[.val (.ref o0), .val (.ref o1), .val (.ref o2), .val (.int p3), .val (.int (p3 + (1:Int32))), .val (.int (1:Int32)), .val (.int (0:Int32))] [])) _
    refine XS.iload X36.here hx rfl (hb hby d9_66) rfl ?_
    refine XS.iload X36.here hx rfl (hb hby d9_68) rfl ?_
    show Steps p.tables e below (T36.setTop (mkF m 70 #[.val (.ref o0), .val (.ref o1), .val (.ref o2), .val (.int p3), .val (.int (p3 + (1:Int32))), .val (.int (1:Int32)), .val (.int (0:Int32))] [(.int (0:Int32)), (.int (p3 + (1:Int32)))])) _
    refine XS.iadd X36.here hx rfl (hb hby d9_70) rfl ?_
    rw [Int32.add_zero]
    show Steps p.tables e below (T36.setTop (mkF m 71 #[.val (.ref o0), .val (.ref o1), .val (.ref o2), .val (.int p3), .val (.int (p3 + (1:Int32))), .val (.int (1:Int32)), .val (.int (0:Int32))] [(.int (p3 + (1:Int32)))])) _
    refine XS.istore X36.here hx rfl (hb hby d9_71) rfl (l' := #[.val (.ref o0), .val (.ref o1), .val (.ref o2), .val (.int p3), .val (.int (p3 + (1:Int32))), .val (.int (1:Int32)), .val (.int (0:Int32))]) rfl ?_
    refine XS.iinc X36.here hx rfl (hb hby d9_73) rfl (l' := #[.val (.ref o0), .val (.ref o1), .val (.ref o2), .val (.int p3), .val (.int (p3 + (1:Int32))), .val (.int (2:Int32)), .val (.int (0:Int32))]) rfl ?_
    refine XS.goto X36.here hx rfl (pc0 := 76) (pc' := 6) rfl (hb hby d9_76) (by decide) (by decide) ?_
    refine XS.iload X36.here hx rfl (hb hby d9_6) rfl ?_
    refine XS.aloadN X36.here hx rfl (hb hby d9_8) rfl rfl ?_
    show Steps p.tables e below (T36.setTop (mkF m 9 #[.val (.ref o0), .val (.ref o1), .val (.ref o2), .val (.int p3), .val (.int (p3 + (1:Int32))), .val (.int (2:Int32)), .val (.int (0:Int32))] [(.ref o1), (.int (2:Int32))])) _
    refine X36.arraylength hx (by rw [e36]; exact Ar39.1) (State.isArrayOf_alike hZ.alike Ar39.2.1) (g := (mkF m 9 #[.val (.ref o0), .val (.ref o1), .val (.ref o2), .val (.int p3), .val (.int (p3 + (1:Int32))), .val (.int (2:Int32)), .val (.int (0:Int32))] [(.ref o1), (.int (2:Int32))])) rfl rfl (hb hby d9_9) _ ?_
    rw [len_of S39 N39']
    show Steps p.tables e below (T36.setTop (mkF m 10 #[.val (.ref o0), .val (.ref o1), .val (.ref o2), .val (.int p3), .val (.int (p3 + (1:Int32))), .val (.int (2:Int32)), .val (.int (0:Int32))] [(.int (4:Int32)), (.int (2:Int32))])) _
    refine XS.icmpNo X36.here hx rfl (hb hby d9_10) rfl (tlt ((by decide) : (2:Int32) < (4:Int32))).2.1 ?_
    refine XS.iload X36.here hx rfl (hb hby d9_13) rfl ?_
    refine XS.ifNo X36.here hx rfl (hb hby d9_15) rfl ((if0 _ _).trans (tlt ((by decide) : (0:Int32) < (2:Int32))).2.2.2) ?_
    refine XS.aloadN X36.here hx rfl (hb hby d9_18) rfl rfl ?_
    refine XS.iload X36.here hx rfl (hb hby d9_19) rfl ?_
    refine XS.iinc X36.here hx rfl (hb hby d9_21) rfl (l' := #[.val (.ref o0), .val (.ref o1), .val (.ref o2), .val (.int p3), .val (.int ((p3 + (1:Int32)) + (1:Int32))), .val (.int (2:Int32)), .val (.int (0:Int32))]) rfl ?_
    refine XS.iconst X36.here hx rfl (hb hby d9_24) ?_
    show Steps p.tables e below (T36.setTop (mkF m 25 #[.val (.ref o0), .val (.ref o1), .val (.ref o2), .val (.int p3), .val (.int ((p3 + (1:Int32)) + (1:Int32))), .val (.int (2:Int32)), .val (.int (0:Int32))] [(.int (0:Int32)), (.int (p3 + (1:Int32))), (.ref o2)])) _
    refine st42 _ ?_
    show Steps p.tables e below (T42.setTop (mkF m 26 #[.val (.ref o0), .val (.ref o1), .val (.ref o2), .val (.int p3), .val (.int ((p3 + (1:Int32)) + (1:Int32))), .val (.int (2:Int32)), .val (.int (0:Int32))] [])) _
    refine XS.aloadN X42.here hx rfl (hb hby d9_26) rfl rfl ?_
    show Steps p.tables e below (T42.setTop (mkF m 27 #[.val (.ref o0), .val (.ref o1), .val (.ref o2), .val (.int p3), .val (.int ((p3 + (1:Int32)) + (1:Int32))), .val (.int (2:Int32)), .val (.int (0:Int32))] [(.ref o0)])) _
    refine st44 _ ?_
    show Steps p.tables e below (T44.setTop (mkF m 30 #[.val (.ref o0), .val (.ref o1), .val (.ref o2), .val (.int p3), .val (.int ((p3 + (1:Int32)) + (1:Int32))), .val (.int (2:Int32)), .val (.int (0:Int32))] [(.ref bn)])) _
    refine XS.aloadN X44.here hx rfl (hb hby d9_30) rfl rfl ?_
    refine XS.iload X44.here hx rfl (hb hby d9_31) rfl ?_
    show Steps p.tables e below (T44.setTop (mkF m 33 #[.val (.ref o0), .val (.ref o1), .val (.ref o2), .val (.int p3), .val (.int ((p3 + (1:Int32)) + (1:Int32))), .val (.int (2:Int32)), .val (.int (0:Int32))] [(.int (2:Int32)), (.ref o1), (.ref bn)])) _
    refine X44.iaload hx (j := (2:Int32)) (v := (.int (0:Int32))) (by rw [e44]; exact Ar46.1) (State.isArrayOf_alike hZ.alike Ar46.2.1) Ar46.2.2 hin46 (H46.at hin46 rfl) (g := (mkF m 33 #[.val (.ref o0), .val (.ref o1), .val (.ref o2), .val (.int p3), .val (.int ((p3 + (1:Int32)) + (1:Int32))), .val (.int (2:Int32)), .val (.int (0:Int32))] [(.int (2:Int32)), (.ref o1), (.ref bn)])) rfl rfl (hb hby d9_33) _ ?_
    show Steps p.tables e below (T44.setTop (mkF m 34 #[.val (.ref o0), .val (.ref o1), .val (.ref o2), .val (.int p3), .val (.int ((p3 + (1:Int32)) + (1:Int32))), .val (.int (2:Int32)), .val (.int (0:Int32))] [(.int (0:Int32)), (.ref bn)])) _
    refine X44.iaload hx (j := (0:Int32)) (v := (.int (0:Int32))) (by rw [e44]; exact Ar48.1) (State.isArrayOf_alike hZ.alike Ar48.2.1) Ar48.2.2 hin48 (H48.at hin48 rfl) (g := (mkF m 34 #[.val (.ref o0), .val (.ref o1), .val (.ref o2), .val (.int p3), .val (.int ((p3 + (1:Int32)) + (1:Int32))), .val (.int (2:Int32)), .val (.int (0:Int32))] [(.int (0:Int32)), (.ref bn)])) rfl rfl (hb hby d9_34) _ ?_
    show Steps p.tables e below (T44.setTop (mkF m 35 #[.val (.ref o0), .val (.ref o1), .val (.ref o2), .val (.int p3), .val (.int ((p3 + (1:Int32)) + (1:Int32))), .val (.int (2:Int32)), .val (.int (0:Int32))] [(.int (0:Int32))])) _
    refine XS.aloadN X44.here hx rfl (hb hby d9_35) rfl rfl ?_
    refine XS.aloadN X44.here hx rfl (hb hby d9_36) rfl rfl ?_
    refine XS.iload X44.here hx rfl (hb hby d9_37) rfl ?_
    show Steps p.tables e below (T44.setTop (mkF m 39 #[.val (.ref o0), .val (.ref o1), .val (.ref o2), .val (.int p3), .val (.int ((p3 + (1:Int32)) + (1:Int32))), .val (.int (2:Int32)), .val (.int (0:Int32))] [(.int (2:Int32)), (.ref o1), (.ref o0), (.int (0:Int32))])) _
    refine X44.iaload hx (j := (2:Int32)) (v := (.int (0:Int32))) (by rw [e44]; exact Ar49.1) (State.isArrayOf_alike hZ.alike Ar49.2.1) Ar49.2.2 hin49 (H49.at hin49 rfl) (g := (mkF m 39 #[.val (.ref o0), .val (.ref o1), .val (.ref o2), .val (.int p3), .val (.int ((p3 + (1:Int32)) + (1:Int32))), .val (.int (2:Int32)), .val (.int (0:Int32))] [(.int (2:Int32)), (.ref o1), (.ref o0), (.int (0:Int32))])) rfl rfl (hb hby d9_39) _ ?_
    show Steps p.tables e below (T44.setTop (mkF m 40 #[.val (.ref o0), .val (.ref o1), .val (.ref o2), .val (.int p3), .val (.int ((p3 + (1:Int32)) + (1:Int32))), .val (.int (2:Int32)), .val (.int (0:Int32))] [(.int (0:Int32)), (.ref o0), (.int (0:Int32))])) _
    refine st50.trans ?_
    show Steps p.tables e below (T50.setTop (mkF m 43 #[.val (.ref o0), .val (.ref o1), .val (.ref o2), .val (.int p3), .val (.int ((p3 + (1:Int32)) + (1:Int32))), .val (.int (2:Int32)), .val (.int (0:Int32))] [(.int (0:Int32)), (.int (0:Int32))])) _
    refine XS.isub X50.here hx rfl (hb hby d9_43) rfl ?_
    rw [show ((0:Int32) - (0:Int32)) = (0:Int32) from by decide]
    show Steps p.tables e below (T50.setTop (mkF m 44 #[.val (.ref o0), .val (.ref o1), .val (.ref o2), .val (.int p3), .val (.int ((p3 + (1:Int32)) + (1:Int32))), .val (.int (2:Int32)), .val (.int (0:Int32))] [(.int (0:Int32))])) _
    refine XS.istore X50.here hx rfl (hb hby d9_44) rfl (l' := #[.val (.ref o0), .val (.ref o1), .val (.ref o2), .val (.int p3), .val (.int ((p3 + (1:Int32)) + (1:Int32))), .val (.int (2:Int32)), .val (.int (0:Int32))]) rfl ?_
    refine XS.aloadN X50.here hx rfl (hb hby d9_46) rfl rfl ?_
    show Steps p.tables e below (T50.setTop (mkF m 47 #[.val (.ref o0), .val (.ref o1), .val (.ref o2), .val (.int p3), .val (.int ((p3 + (1:Int32)) + (1:Int32))), .val (.int (2:Int32)), .val (.int (0:Int32))] [(.ref o0)])) _
    refine st54 _ ?_
    show Steps p.tables e below (T54.setTop (mkF m 50 #[.val (.ref o0), .val (.ref o1), .val (.ref o2), .val (.int p3), .val (.int ((p3 + (1:Int32)) + (1:Int32))), .val (.int (2:Int32)), .val (.int (0:Int32))] [(.ref br)])) _
    refine XS.aloadN X54.here hx rfl (hb hby d9_50) rfl rfl ?_
    refine XS.aloadN X54.here hx rfl (hb hby d9_51) rfl rfl ?_
    refine XS.iload X54.here hx rfl (hb hby d9_52) rfl ?_
    show Steps p.tables e below (T54.setTop (mkF m 54 #[.val (.ref o0), .val (.ref o1), .val (.ref o2), .val (.int p3), .val (.int ((p3 + (1:Int32)) + (1:Int32))), .val (.int (2:Int32)), .val (.int (0:Int32))] [(.int (2:Int32)), (.ref o1), (.ref o0), (.ref br)])) _
    refine X54.iaload hx (j := (2:Int32)) (v := (.int (0:Int32))) (by rw [e54]; exact Ar55.1) (State.isArrayOf_alike hZ.alike Ar55.2.1) Ar55.2.2 hin55 (H55.at hin55 rfl) (g := (mkF m 54 #[.val (.ref o0), .val (.ref o1), .val (.ref o2), .val (.int p3), .val (.int ((p3 + (1:Int32)) + (1:Int32))), .val (.int (2:Int32)), .val (.int (0:Int32))] [(.int (2:Int32)), (.ref o1), (.ref o0), (.ref br)])) rfl rfl (hb hby d9_54) _ ?_
    show Steps p.tables e below (T54.setTop (mkF m 55 #[.val (.ref o0), .val (.ref o1), .val (.ref o2), .val (.int p3), .val (.int ((p3 + (1:Int32)) + (1:Int32))), .val (.int (2:Int32)), .val (.int (0:Int32))] [(.int (0:Int32)), (.ref o0), (.ref br)])) _
    refine st56.trans ?_
    show Steps p.tables e below (T56.setTop (mkF m 58 #[.val (.ref o0), .val (.ref o1), .val (.ref o2), .val (.int p3), .val (.int ((p3 + (1:Int32)) + (1:Int32))), .val (.int (2:Int32)), .val (.int (0:Int32))] [(.int (0:Int32)), (.ref br)])) _
    refine XS.aloadN X56.here hx rfl (hb hby d9_58) rfl rfl ?_
    refine XS.iload X56.here hx rfl (hb hby d9_59) rfl ?_
    refine XS.iload X56.here hx rfl (hb hby d9_61) rfl ?_
    show Steps p.tables e below (T56.setTop (mkF m 63 #[.val (.ref o0), .val (.ref o1), .val (.ref o2), .val (.int p3), .val (.int ((p3 + (1:Int32)) + (1:Int32))), .val (.int (2:Int32)), .val (.int (0:Int32))] [(.int (0:Int32)), (.int ((p3 + (1:Int32)) + (1:Int32))), (.ref o2), (.int (0:Int32)), (.ref br)])) _
    refine st58 _ ?_
    show Steps p.tables e below (T58.setTop (mkF m 66 #[.val (.ref o0), .val (.ref o1), .val (.ref o2), .val (.int p3), .val (.int ((p3 + (1:Int32)) + (1:Int32))), .val (.int (2:Int32)), .val (.int (0:Int32))] [])) _
    refine XS.iload X58.here hx rfl (hb hby d9_66) rfl ?_
    refine XS.iload X58.here hx rfl (hb hby d9_68) rfl ?_
    show Steps p.tables e below (T58.setTop (mkF m 70 #[.val (.ref o0), .val (.ref o1), .val (.ref o2), .val (.int p3), .val (.int ((p3 + (1:Int32)) + (1:Int32))), .val (.int (2:Int32)), .val (.int (0:Int32))] [(.int (0:Int32)), (.int ((p3 + (1:Int32)) + (1:Int32)))])) _
    refine XS.iadd X58.here hx rfl (hb hby d9_70) rfl ?_
    rw [Int32.add_zero]
    show Steps p.tables e below (T58.setTop (mkF m 71 #[.val (.ref o0), .val (.ref o1), .val (.ref o2), .val (.int p3), .val (.int ((p3 + (1:Int32)) + (1:Int32))), .val (.int (2:Int32)), .val (.int (0:Int32))] [(.int ((p3 + (1:Int32)) + (1:Int32)))])) _
    refine XS.istore X58.here hx rfl (hb hby d9_71) rfl (l' := #[.val (.ref o0), .val (.ref o1), .val (.ref o2), .val (.int p3), .val (.int ((p3 + (1:Int32)) + (1:Int32))), .val (.int (2:Int32)), .val (.int (0:Int32))]) rfl ?_
    refine XS.iinc X58.here hx rfl (hb hby d9_73) rfl (l' := #[.val (.ref o0), .val (.ref o1), .val (.ref o2), .val (.int p3), .val (.int ((p3 + (1:Int32)) + (1:Int32))), .val (.int (3:Int32)), .val (.int (0:Int32))]) rfl ?_
    refine XS.goto X58.here hx rfl (pc0 := 76) (pc' := 6) rfl (hb hby d9_76) (by decide) (by decide) ?_
    refine XS.iload X58.here hx rfl (hb hby d9_6) rfl ?_
    refine XS.aloadN X58.here hx rfl (hb hby d9_8) rfl rfl ?_
    show Steps p.tables e below (T58.setTop (mkF m 9 #[.val (.ref o0), .val (.ref o1), .val (.ref o2), .val (.int p3), .val (.int ((p3 + (1:Int32)) + (1:Int32))), .val (.int (3:Int32)), .val (.int (0:Int32))] [(.ref o1), (.int (3:Int32))])) _
    refine X58.arraylength hx (by rw [e58]; exact Ar61.1) (State.isArrayOf_alike hZ.alike Ar61.2.1) (g := (mkF m 9 #[.val (.ref o0), .val (.ref o1), .val (.ref o2), .val (.int p3), .val (.int ((p3 + (1:Int32)) + (1:Int32))), .val (.int (3:Int32)), .val (.int (0:Int32))] [(.ref o1), (.int (3:Int32))])) rfl rfl (hb hby d9_9) _ ?_
    rw [len_of S61 N61']
    show Steps p.tables e below (T58.setTop (mkF m 10 #[.val (.ref o0), .val (.ref o1), .val (.ref o2), .val (.int p3), .val (.int ((p3 + (1:Int32)) + (1:Int32))), .val (.int (3:Int32)), .val (.int (0:Int32))] [(.int (4:Int32)), (.int (3:Int32))])) _
    refine XS.icmpNo X58.here hx rfl (hb hby d9_10) rfl (tlt ((by decide) : (3:Int32) < (4:Int32))).2.1 ?_
    refine XS.iload X58.here hx rfl (hb hby d9_13) rfl ?_
    refine XS.ifNo X58.here hx rfl (hb hby d9_15) rfl ((if0 _ _).trans (tlt ((by decide) : (0:Int32) < (3:Int32))).2.2.2) ?_
    refine XS.aloadN X58.here hx rfl (hb hby d9_18) rfl rfl ?_
    refine XS.iload X58.here hx rfl (hb hby d9_19) rfl ?_
    refine XS.iinc X58.here hx rfl (hb hby d9_21) rfl (l' := #[.val (.ref o0), .val (.ref o1), .val (.ref o2), .val (.int p3), .val (.int (((p3 + (1:Int32)) + (1:Int32)) + (1:Int32))), .val (.int (3:Int32)), .val (.int (0:Int32))]) rfl ?_
    refine XS.iconst X58.here hx rfl (hb hby d9_24) ?_
    show Steps p.tables e below (T58.setTop (mkF m 25 #[.val (.ref o0), .val (.ref o1), .val (.ref o2), .val (.int p3), .val (.int (((p3 + (1:Int32)) + (1:Int32)) + (1:Int32))), .val (.int (3:Int32)), .val (.int (0:Int32))] [(.int (0:Int32)), (.int ((p3 + (1:Int32)) + (1:Int32))), (.ref o2)])) _
    refine st64 _ ?_
    show Steps p.tables e below (T64.setTop (mkF m 26 #[.val (.ref o0), .val (.ref o1), .val (.ref o2), .val (.int p3), .val (.int (((p3 + (1:Int32)) + (1:Int32)) + (1:Int32))), .val (.int (3:Int32)), .val (.int (0:Int32))] [])) _
    refine XS.aloadN X64.here hx rfl (hb hby d9_26) rfl rfl ?_
    show Steps p.tables e below (T64.setTop (mkF m 27 #[.val (.ref o0), .val (.ref o1), .val (.ref o2), .val (.int p3), .val (.int (((p3 + (1:Int32)) + (1:Int32)) + (1:Int32))), .val (.int (3:Int32)), .val (.int (0:Int32))] [(.ref o0)])) _
    refine st66 _ ?_
    show Steps p.tables e below (T66.setTop (mkF m 30 #[.val (.ref o0), .val (.ref o1), .val (.ref o2), .val (.int p3), .val (.int (((p3 + (1:Int32)) + (1:Int32)) + (1:Int32))), .val (.int (3:Int32)), .val (.int (0:Int32))] [(.ref bn)])) _
    refine XS.aloadN X66.here hx rfl (hb hby d9_30) rfl rfl ?_
    refine XS.iload X66.here hx rfl (hb hby d9_31) rfl ?_
    show Steps p.tables e below (T66.setTop (mkF m 33 #[.val (.ref o0), .val (.ref o1), .val (.ref o2), .val (.int p3), .val (.int (((p3 + (1:Int32)) + (1:Int32)) + (1:Int32))), .val (.int (3:Int32)), .val (.int (0:Int32))] [(.int (3:Int32)), (.ref o1), (.ref bn)])) _
    refine X66.iaload hx (j := (3:Int32)) (v := (.int (0:Int32))) (by rw [e66]; exact Ar68.1) (State.isArrayOf_alike hZ.alike Ar68.2.1) Ar68.2.2 hin68 (H68.at hin68 rfl) (g := (mkF m 33 #[.val (.ref o0), .val (.ref o1), .val (.ref o2), .val (.int p3), .val (.int (((p3 + (1:Int32)) + (1:Int32)) + (1:Int32))), .val (.int (3:Int32)), .val (.int (0:Int32))] [(.int (3:Int32)), (.ref o1), (.ref bn)])) rfl rfl (hb hby d9_33) _ ?_
    show Steps p.tables e below (T66.setTop (mkF m 34 #[.val (.ref o0), .val (.ref o1), .val (.ref o2), .val (.int p3), .val (.int (((p3 + (1:Int32)) + (1:Int32)) + (1:Int32))), .val (.int (3:Int32)), .val (.int (0:Int32))] [(.int (0:Int32)), (.ref bn)])) _
    refine X66.iaload hx (j := (0:Int32)) (v := (.int (0:Int32))) (by rw [e66]; exact Ar70.1) (State.isArrayOf_alike hZ.alike Ar70.2.1) Ar70.2.2 hin70 (H70.at hin70 rfl) (g := (mkF m 34 #[.val (.ref o0), .val (.ref o1), .val (.ref o2), .val (.int p3), .val (.int (((p3 + (1:Int32)) + (1:Int32)) + (1:Int32))), .val (.int (3:Int32)), .val (.int (0:Int32))] [(.int (0:Int32)), (.ref bn)])) rfl rfl (hb hby d9_34) _ ?_
    show Steps p.tables e below (T66.setTop (mkF m 35 #[.val (.ref o0), .val (.ref o1), .val (.ref o2), .val (.int p3), .val (.int (((p3 + (1:Int32)) + (1:Int32)) + (1:Int32))), .val (.int (3:Int32)), .val (.int (0:Int32))] [(.int (0:Int32))])) _
    refine XS.aloadN X66.here hx rfl (hb hby d9_35) rfl rfl ?_
    refine XS.aloadN X66.here hx rfl (hb hby d9_36) rfl rfl ?_
    refine XS.iload X66.here hx rfl (hb hby d9_37) rfl ?_
    show Steps p.tables e below (T66.setTop (mkF m 39 #[.val (.ref o0), .val (.ref o1), .val (.ref o2), .val (.int p3), .val (.int (((p3 + (1:Int32)) + (1:Int32)) + (1:Int32))), .val (.int (3:Int32)), .val (.int (0:Int32))] [(.int (3:Int32)), (.ref o1), (.ref o0), (.int (0:Int32))])) _
    refine X66.iaload hx (j := (3:Int32)) (v := (.int (0:Int32))) (by rw [e66]; exact Ar71.1) (State.isArrayOf_alike hZ.alike Ar71.2.1) Ar71.2.2 hin71 (H71.at hin71 rfl) (g := (mkF m 39 #[.val (.ref o0), .val (.ref o1), .val (.ref o2), .val (.int p3), .val (.int (((p3 + (1:Int32)) + (1:Int32)) + (1:Int32))), .val (.int (3:Int32)), .val (.int (0:Int32))] [(.int (3:Int32)), (.ref o1), (.ref o0), (.int (0:Int32))])) rfl rfl (hb hby d9_39) _ ?_
    show Steps p.tables e below (T66.setTop (mkF m 40 #[.val (.ref o0), .val (.ref o1), .val (.ref o2), .val (.int p3), .val (.int (((p3 + (1:Int32)) + (1:Int32)) + (1:Int32))), .val (.int (3:Int32)), .val (.int (0:Int32))] [(.int (0:Int32)), (.ref o0), (.int (0:Int32))])) _
    refine st72.trans ?_
    show Steps p.tables e below (T72.setTop (mkF m 43 #[.val (.ref o0), .val (.ref o1), .val (.ref o2), .val (.int p3), .val (.int (((p3 + (1:Int32)) + (1:Int32)) + (1:Int32))), .val (.int (3:Int32)), .val (.int (0:Int32))] [(.int (0:Int32)), (.int (0:Int32))])) _
    refine XS.isub X72.here hx rfl (hb hby d9_43) rfl ?_
    rw [show ((0:Int32) - (0:Int32)) = (0:Int32) from by decide]
    show Steps p.tables e below (T72.setTop (mkF m 44 #[.val (.ref o0), .val (.ref o1), .val (.ref o2), .val (.int p3), .val (.int (((p3 + (1:Int32)) + (1:Int32)) + (1:Int32))), .val (.int (3:Int32)), .val (.int (0:Int32))] [(.int (0:Int32))])) _
    refine XS.istore X72.here hx rfl (hb hby d9_44) rfl (l' := #[.val (.ref o0), .val (.ref o1), .val (.ref o2), .val (.int p3), .val (.int (((p3 + (1:Int32)) + (1:Int32)) + (1:Int32))), .val (.int (3:Int32)), .val (.int (0:Int32))]) rfl ?_
    refine XS.aloadN X72.here hx rfl (hb hby d9_46) rfl rfl ?_
    show Steps p.tables e below (T72.setTop (mkF m 47 #[.val (.ref o0), .val (.ref o1), .val (.ref o2), .val (.int p3), .val (.int (((p3 + (1:Int32)) + (1:Int32)) + (1:Int32))), .val (.int (3:Int32)), .val (.int (0:Int32))] [(.ref o0)])) _
    refine st76 _ ?_
    show Steps p.tables e below (T76.setTop (mkF m 50 #[.val (.ref o0), .val (.ref o1), .val (.ref o2), .val (.int p3), .val (.int (((p3 + (1:Int32)) + (1:Int32)) + (1:Int32))), .val (.int (3:Int32)), .val (.int (0:Int32))] [(.ref br)])) _
    refine XS.aloadN X76.here hx rfl (hb hby d9_50) rfl rfl ?_
    refine XS.aloadN X76.here hx rfl (hb hby d9_51) rfl rfl ?_
    refine XS.iload X76.here hx rfl (hb hby d9_52) rfl ?_
    show Steps p.tables e below (T76.setTop (mkF m 54 #[.val (.ref o0), .val (.ref o1), .val (.ref o2), .val (.int p3), .val (.int (((p3 + (1:Int32)) + (1:Int32)) + (1:Int32))), .val (.int (3:Int32)), .val (.int (0:Int32))] [(.int (3:Int32)), (.ref o1), (.ref o0), (.ref br)])) _
    refine X76.iaload hx (j := (3:Int32)) (v := (.int (0:Int32))) (by rw [e76]; exact Ar77.1) (State.isArrayOf_alike hZ.alike Ar77.2.1) Ar77.2.2 hin77 (H77.at hin77 rfl) (g := (mkF m 54 #[.val (.ref o0), .val (.ref o1), .val (.ref o2), .val (.int p3), .val (.int (((p3 + (1:Int32)) + (1:Int32)) + (1:Int32))), .val (.int (3:Int32)), .val (.int (0:Int32))] [(.int (3:Int32)), (.ref o1), (.ref o0), (.ref br)])) rfl rfl (hb hby d9_54) _ ?_
    show Steps p.tables e below (T76.setTop (mkF m 55 #[.val (.ref o0), .val (.ref o1), .val (.ref o2), .val (.int p3), .val (.int (((p3 + (1:Int32)) + (1:Int32)) + (1:Int32))), .val (.int (3:Int32)), .val (.int (0:Int32))] [(.int (0:Int32)), (.ref o0), (.ref br)])) _
    refine st78.trans ?_
    show Steps p.tables e below (T78.setTop (mkF m 58 #[.val (.ref o0), .val (.ref o1), .val (.ref o2), .val (.int p3), .val (.int (((p3 + (1:Int32)) + (1:Int32)) + (1:Int32))), .val (.int (3:Int32)), .val (.int (0:Int32))] [(.int (0:Int32)), (.ref br)])) _
    refine XS.aloadN X78.here hx rfl (hb hby d9_58) rfl rfl ?_
    refine XS.iload X78.here hx rfl (hb hby d9_59) rfl ?_
    refine XS.iload X78.here hx rfl (hb hby d9_61) rfl ?_
    show Steps p.tables e below (T78.setTop (mkF m 63 #[.val (.ref o0), .val (.ref o1), .val (.ref o2), .val (.int p3), .val (.int (((p3 + (1:Int32)) + (1:Int32)) + (1:Int32))), .val (.int (3:Int32)), .val (.int (0:Int32))] [(.int (0:Int32)), (.int (((p3 + (1:Int32)) + (1:Int32)) + (1:Int32))), (.ref o2), (.int (0:Int32)), (.ref br)])) _
    refine st80 _ ?_
    show Steps p.tables e below (T80.setTop (mkF m 66 #[.val (.ref o0), .val (.ref o1), .val (.ref o2), .val (.int p3), .val (.int (((p3 + (1:Int32)) + (1:Int32)) + (1:Int32))), .val (.int (3:Int32)), .val (.int (0:Int32))] [])) _
    refine XS.iload X80.here hx rfl (hb hby d9_66) rfl ?_
    refine XS.iload X80.here hx rfl (hb hby d9_68) rfl ?_
    show Steps p.tables e below (T80.setTop (mkF m 70 #[.val (.ref o0), .val (.ref o1), .val (.ref o2), .val (.int p3), .val (.int (((p3 + (1:Int32)) + (1:Int32)) + (1:Int32))), .val (.int (3:Int32)), .val (.int (0:Int32))] [(.int (0:Int32)), (.int (((p3 + (1:Int32)) + (1:Int32)) + (1:Int32)))])) _
    refine XS.iadd X80.here hx rfl (hb hby d9_70) rfl ?_
    rw [Int32.add_zero]
    show Steps p.tables e below (T80.setTop (mkF m 71 #[.val (.ref o0), .val (.ref o1), .val (.ref o2), .val (.int p3), .val (.int (((p3 + (1:Int32)) + (1:Int32)) + (1:Int32))), .val (.int (3:Int32)), .val (.int (0:Int32))] [(.int (((p3 + (1:Int32)) + (1:Int32)) + (1:Int32)))])) _
    refine XS.istore X80.here hx rfl (hb hby d9_71) rfl (l' := #[.val (.ref o0), .val (.ref o1), .val (.ref o2), .val (.int p3), .val (.int (((p3 + (1:Int32)) + (1:Int32)) + (1:Int32))), .val (.int (3:Int32)), .val (.int (0:Int32))]) rfl ?_
    refine XS.iinc X80.here hx rfl (hb hby d9_73) rfl (l' := #[.val (.ref o0), .val (.ref o1), .val (.ref o2), .val (.int p3), .val (.int (((p3 + (1:Int32)) + (1:Int32)) + (1:Int32))), .val (.int (4:Int32)), .val (.int (0:Int32))]) rfl ?_
    refine XS.goto X80.here hx rfl (pc0 := 76) (pc' := 6) rfl (hb hby d9_76) (by decide) (by decide) ?_
    refine XS.iload X80.here hx rfl (hb hby d9_6) rfl ?_
    refine XS.aloadN X80.here hx rfl (hb hby d9_8) rfl rfl ?_
    show Steps p.tables e below (T80.setTop (mkF m 9 #[.val (.ref o0), .val (.ref o1), .val (.ref o2), .val (.int p3), .val (.int (((p3 + (1:Int32)) + (1:Int32)) + (1:Int32))), .val (.int (4:Int32)), .val (.int (0:Int32))] [(.ref o1), (.int (4:Int32))])) _
    refine X80.arraylength hx (by rw [e80]; exact Ar83.1) (State.isArrayOf_alike hZ.alike Ar83.2.1) (g := (mkF m 9 #[.val (.ref o0), .val (.ref o1), .val (.ref o2), .val (.int p3), .val (.int (((p3 + (1:Int32)) + (1:Int32)) + (1:Int32))), .val (.int (4:Int32)), .val (.int (0:Int32))] [(.ref o1), (.int (4:Int32))])) rfl rfl (hb hby d9_9) _ ?_
    rw [len_of S83 N83']
    show Steps p.tables e below (T80.setTop (mkF m 10 #[.val (.ref o0), .val (.ref o1), .val (.ref o2), .val (.int p3), .val (.int (((p3 + (1:Int32)) + (1:Int32)) + (1:Int32))), .val (.int (4:Int32)), .val (.int (0:Int32))] [(.int (4:Int32)), (.int (4:Int32))])) _
    refine XS.icmpYes X80.here hx rfl (pc0 := 10) (pc' := 79) rfl (hb hby d9_10) rfl (flt ((by decide) : ¬ ((4:Int32) < (4:Int32)))).2.1 (by decide) (by decide) ?_
    show Steps p.tables e below (T80.setTop (mkF m 79 #[.val (.ref o0), .val (.ref o1), .val (.ref o2), .val (.int p3), .val (.int (((p3 + (1:Int32)) + (1:Int32)) + (1:Int32))), .val (.int (4:Int32)), .val (.int (0:Int32))] [])) _
    exact X80.returnOut hx Bd.returns (hb hby d9_79) hr
  · show rm9Q Z o0 o1 o2 p3 k2 (4:Int32) h0 n0 _ T80.heap _
    rw [e80]
    exact ⟨rfl, N80, Kk_84, Ac80⟩
theorem rm9 (l : Launch) (Z : State) (aw : Array Value) (hw : ∀ d ∈ tables_1, d.before aw Z = true) (ws : List Jvm.Cond) (o0 : Nat) (o1 : Nat) (o2 : Nat) (p3 : Int32) (bn br : Nat) (kn kr k1 k2 : ClassId) (LL : Int32) (h0 : Heap) (n0 : Nat) (Z0 : n0 ≤ h0.size) (E_o0 : Exa Z h0 o0 "com/example/tavola/tavola/profile/CsvReader") (F_ends : Fld Z h0 o0 "com/example/tavola/tavola/profile/CsvReader" "ends" "[I" (.ref bn)) (V_bn : Arv Z h0 bn kn .int (16:Int32) [] (.int (0:Int32))) (F_rec : Fld Z h0 o0 "com/example/tavola/tavola/profile/CsvReader" "record" "[B" (.ref br)) (A_br : own_Arf Z h0 br kr .byte (256:Int32) (.int (0:Int32))) (V_o1 : Arv Z h0 o1 k1 .int LL [] (.int (0:Int32))) (A_o2 : own_Arf Z h0 o2 k2 .byte (65536:Int32) (.int (0:Int32))) (g_o2 : n0 ≤ o2) (hp0 : ¬ p3 < (0:Int32)) (hp6 : ¬ (6:Int32) < p3) (lt1 : o1 < o2) (lt2 : o0 < o2) (lt3 : bn < o2) (lt4 : br < o2) (hL : LL = (1:Int32) ∨ LL = (2:Int32) ∨ LL = (3:Int32) ∨ LL = (4:Int32)) :
    MetFree l (⟨"com/example/tavola/tavola/profile/CsvReader", "copyKey", "([I[BI)V"⟩ : MethodName) (head1 (Jvm.Cond.code (⟨"com/example/tavola/tavola/profile/CsvReader", "copyKey", "([I[BI)V"⟩ : MethodName) prog_81_method_14_code 7 none :: ws) ({ frames := 1, cells := 0, slots := 0, locals := 60 } : Room)) (fun a U => a = #[(.ref o0), (.ref o1), (.ref o2), (.int p3)] ∧ Z.Warmed39 U.vm ∧ U.heap = h0) (fun _ _ _ _ _ => True) (fun _ U o U' => ∃ v L, o = .returned v ∧ rm9Q Z o0 o1 o2 p3 k2 LL h0 n0 v U'.heap L ∧ FrameEnd U o U' L ({ frames := 1, cells := 0, slots := 0, locals := 60 } : Room).cells ({ frames := 1, cells := 0, slots := 0, locals := 60 } : Room).slots) := by
  rcases hL with rfl | rfl | rfl | rfl
  · exact rm9_1 l Z aw hw ws o0 o1 o2 p3 bn br kn kr k1 k2 h0 n0 Z0 E_o0 F_ends V_bn F_rec A_br V_o1 A_o2 g_o2 hp0 hp6 lt1 lt2 lt3 lt4
  · exact rm9_2 l Z aw hw ws o0 o1 o2 p3 bn br kn kr k1 k2 h0 n0 Z0 E_o0 F_ends V_bn F_rec A_br V_o1 A_o2 g_o2 hp0 hp6 lt1 lt2 lt3 lt4
  · exact rm9_3 l Z aw hw ws o0 o1 o2 p3 bn br kn kr k1 k2 h0 n0 Z0 E_o0 F_ends V_bn F_rec A_br V_o1 A_o2 g_o2 hp0 hp6 lt1 lt2 lt3 lt4
  · exact rm9_4 l Z aw hw ws o0 o1 o2 p3 bn br kn kr k1 k2 h0 n0 Z0 E_o0 F_ends V_bn F_rec A_br V_o1 A_o2 g_o2 hp0 hp6 lt1 lt2 lt3 lt4
theorem d12_0 : decode jdk_65_method_30_code 0 = .ok (.iload_n 1, 1) := by decide +kernel
theorem d12_1 : decode jdk_65_method_30_code 1 = .ok (.iload_n 2, 1) := by decide +kernel
theorem d12_2 : decode jdk_65_method_30_code 2 = .ok (.if_icmp .le 44, 3) := by decide +kernel
theorem d12_46 : decode jdk_65_method_30_code 46 = .ok (.iload_n 1, 1) := by decide +kernel
theorem d12_47 : decode jdk_65_method_30_code 47 = .ok (.ifCond .ge 12, 3) := by decide +kernel
theorem d12_59 : decode jdk_65_method_30_code 59 = .ok (.iload_n 2, 1) := by decide +kernel
theorem d12_60 : decode jdk_65_method_30_code 60 = .ok (.iload_n 0, 1) := by decide +kernel
theorem d12_61 : decode jdk_65_method_30_code 61 = .ok (.if_icmp .le 12, 3) := by decide +kernel
theorem d12_73 : decode jdk_65_method_30_code 73 = .ok (.return_, 1) := by decide +kernel
theorem pn_12 : plainName "java/util/Arrays" = true := by first | (simp [plainName, overriddenIn]; done) | decide +kernel
theorem ef_rm12 (m : MethodId) (p0 : Int32) (p1 : Int32) (p2 : Int32) : entryFrame m #[(.int p0), (.int p1), (.int p2)] 3 = mkF m 0 #[.val (.int p0), .val (.int p1), .val (.int p2)] [] := by first | (simp [entryFrame, mkF, argsToLocals, Value.category]; done) | rfl
def rm12Q (Z : State) (p0 : Int32) (p1 : Int32) (p2 : Int32) (h0 : Heap) (n0 : Nat) (v : Option Value) (h : Heap) (L : List Loc) : Prop := v = none ∧ Fr n0 L ∧ h = h0
set_option maxRecDepth 65536 in
set_option maxHeartbeats 40000000 in
theorem rm12 (l : Launch) (Z : State) (aw : Array Value) (hw : ∀ d ∈ tables_1, d.before aw Z = true) (ws : List Jvm.Cond) (p0 : Int32) (p1 : Int32) (p2 : Int32) (h0 : Heap) (n0 : Nat) (Z0 : n0 ≤ h0.size) (hr1 : ¬ p2 < p1) (hr2 : ¬ p1 < (0:Int32)) (hr3 : ¬ p0 < p2) :
    MetFree l (⟨"java/util/Arrays", "rangeCheck", "(III)V"⟩ : MethodName) (head1 (Jvm.Cond.code (⟨"java/util/Arrays", "rangeCheck", "(III)V"⟩ : MethodName) jdk_65_method_30_code 3 none :: ws) ({ frames := 0, cells := 0, slots := 0, locals := 0 } : Room)) (fun a U => a = #[(.int p0), (.int p1), (.int p2)] ∧ Z.Warmed39 U.vm ∧ U.heap = h0) (fun _ _ _ _ _ => True) (fun _ U o U' => ∃ v L, o = .returned v ∧ rm12Q Z p0 p1 p2 h0 n0 v U'.heap L ∧ FrameEnd U o U' L ({ frames := 0, cells := 0, slots := 0, locals := 0 } : Room).cells ({ frames := 0, cells := 0, slots := 0, locals := 0 } : Room).slots) := by
  refine MetFree.of_bodySF (plainFor_of_name pn_12) hisR ?_
  intro p e s m args below meth c s₁ Bd hml0 hP hK
  obtain ⟨rfl, hZ, hh⟩ := hP
  have hx := Bd.exec
  have hby := Bd.bytes
  have hml : c.maxLocals = 3 := hml0
  have hown : s.vm.findClass "java/util/Arrays" = some m.cls := findClass_of_methodNamed Bd.named
  have hnm := (name_of_methodNamed Bd.named Bd.method).1
  have X0 : Stand p l e ({ frames := 0, cells := 0, slots := 0, locals := 0 } : Room) s m #[(.int p0), (.int p1), (.int p2)] below meth c s₁ [] 0 0 := Stand.of_body Bd
  have e0 : s₁.heap = h0 := by rw [← hh, Bd.state]; rfl
  have N0 := Fr.nil n0
  have pre0 : ∀ t, Steps p.tables e below (s₁.setTop (mkF m 0 #[.val (.int p0), .val (.int p1), .val (.int p2)] [])) t → Steps p.tables e below (s₁.setTop (entryFrame m #[(.int p0), (.int p1), (.int p2)] 3)) t := fun t k => castTop (ef_rm12 m p0 p1 p2) k
  obtain ⟨fs, hr, hrun, hended, hW, hsame⟩ := X0.leave (v := none) (fun _ => rfl)
  refine ⟨_, _, pre0 _ ?_, hrun, hended, _, _, rfl, ?_, ⟨_, rfl⟩, hW, hsame.mono (by decide) (by decide)⟩
  · show Steps p.tables e below (s₁.setTop (mkF m 0 #[.val (.int p0), .val (.int p1), .val (.int p2)] [])) _
    refine XS.iloadN X0.here hx rfl (hb hby d12_0) rfl ?_
    refine XS.iloadN X0.here hx rfl (hb hby d12_1) rfl ?_
    refine XS.icmpYes X0.here hx rfl (pc0 := 2) (pc' := 46) rfl (hb hby d12_2) rfl (flt (hr1 : ¬ (p2 < p1))).2.2.2 (by decide) (by decide) ?_
    refine XS.iloadN X0.here hx rfl (hb hby d12_46) rfl ?_
    refine XS.ifYes X0.here hx rfl (pc0 := 47) (pc' := 59) rfl (hb hby d12_47) rfl ((if0 _ _).trans (flt (hr2 : ¬ (p1 < (0:Int32)))).2.1) (by decide) (by decide) ?_
    refine XS.iloadN X0.here hx rfl (hb hby d12_59) rfl ?_
    refine XS.iloadN X0.here hx rfl (hb hby d12_60) rfl ?_
    refine XS.icmpYes X0.here hx rfl (pc0 := 61) (pc' := 73) rfl (hb hby d12_61) rfl (flt (hr3 : ¬ (p0 < p2))).2.2.2 (by decide) (by decide) ?_
    show Steps p.tables e below (s₁.setTop (mkF m 73 #[.val (.int p0), .val (.int p1), .val (.int p2)] [])) _
    exact X0.returnOut hx Bd.returns (hb hby d12_73) hr
  · show rm12Q Z p0 p1 p2 h0 n0 _ s₁.heap _
    rw [e0]
    exact ⟨rfl, N0, rfl⟩
theorem d11_0 : decode jdk_65_method_104_code 0 = .ok (.aload_n 0, 1) := by decide +kernel
theorem d11_1 : decode jdk_65_method_104_code 1 = .ok (.arraylength, 1) := by decide +kernel
theorem d11_2 : decode jdk_65_method_104_code 2 = .ok (.iload_n 1, 1) := by decide +kernel
theorem d11_3 : decode jdk_65_method_104_code 3 = .ok (.iload_n 2, 1) := by decide +kernel
theorem d11_4 : decode jdk_65_method_104_code 4 = .ok (.invokestatic 13, 3) := by decide +kernel
theorem d11_7 : decode jdk_65_method_104_code 7 = .ok (.iload_n 1, 1) := by decide +kernel
theorem d11_8 : decode jdk_65_method_104_code 8 = .ok (.istore 4, 2) := by decide +kernel
theorem d11_10 : decode jdk_65_method_104_code 10 = .ok (.iload 4, 2) := by decide +kernel
theorem d11_12 : decode jdk_65_method_104_code 12 = .ok (.iload_n 2, 1) := by decide +kernel
theorem d11_13 : decode jdk_65_method_104_code 13 = .ok (.if_icmp .ge 14, 3) := by decide +kernel
theorem d11_16 : decode jdk_65_method_104_code 16 = .ok (.aload_n 0, 1) := by decide +kernel
theorem d11_17 : decode jdk_65_method_104_code 17 = .ok (.iload 4, 2) := by decide +kernel
theorem d11_19 : decode jdk_65_method_104_code 19 = .ok (.iload_n 3, 1) := by decide +kernel
theorem d11_20 : decode jdk_65_method_104_code 20 = .ok (.iastore, 1) := by decide +kernel
theorem d11_21 : decode jdk_65_method_104_code 21 = .ok (.iinc 4 1, 3) := by decide +kernel
theorem d11_24 : decode jdk_65_method_104_code 24 = .ok (.goto (-14), 3) := by decide +kernel
theorem d11_27 : decode jdk_65_method_104_code 27 = .ok (.return_, 1) := by decide +kernel
theorem pn_11 : plainName "java/util/Arrays" = true := by first | (simp [plainName, overriddenIn]; done) | decide +kernel
theorem pd_rm11_0 : parseMethodDescriptor "(III)V" = some ⟨[.int, .int, .int], none⟩ := by decide +kernel
theorem ef_rm11 (m : MethodId) (o0 : Nat) (p1 : Int32) (p2 : Int32) (p3 : Int32) : entryFrame m #[(.ref o0), (.int p1), (.int p2), (.int p3)] 5 = mkF m 0 #[.val (.ref o0), .val (.int p1), .val (.int p2), .val (.int p3), .unset] [] := by first | (simp [entryFrame, mkF, argsToLocals, Value.category]; done) | rfl
def rm11Q (Z : State) (o0 : Nat) (k0 : ClassId) (nn : Int32) (h0 : Heap) (n0 : Nat) (v : Option Value) (h : Heap) (L : List Loc) : Prop := v = none ∧ Fr n0 L ∧ Keep h0 h [o0] ∧ own_Arf Z h o0 k0 .int nn (.int (0:Int32))
set_option maxRecDepth 65536 in
set_option maxHeartbeats 40000000 in
theorem rm11 (l : Launch) (Z : State) (aw : Array Value) (hw : ∀ d ∈ tables_1, d.before aw Z = true) (ws : List Jvm.Cond) (o0 : Nat) (p1 : Int32) (p2 : Int32) (p3 : Int32) (k0 : ClassId) (nn : Int32) (h0 : Heap) (n0 : Nat) (Z0 : n0 ≤ h0.size) (A_o0 : own_Arf Z h0 o0 k0 .int nn (.int (0:Int32))) (g_o0 : n0 ≤ o0) (hr1 : ¬ p2 < p1) (hr2 : ¬ p1 < (0:Int32)) (hr3 : ¬ nn < p2) (hr4 : p2.toInt - p1.toInt ≤ (3 : Nat)) :
    MetFree l (⟨"java/util/Arrays", "fill", "([IIII)V"⟩ : MethodName) (head1 (Jvm.Cond.code (⟨"java/util/Arrays", "fill", "([IIII)V"⟩ : MethodName) jdk_65_method_104_code 5 none :: ws) ({ frames := 1, cells := 0, slots := 0, locals := 14 } : Room)) (fun a U => a = #[(.ref o0), (.int p1), (.int p2), (.int p3)] ∧ Z.Warmed39 U.vm ∧ U.heap = h0) (fun _ _ _ _ _ => True) (fun _ U o U' => ∃ v L, o = .returned v ∧ rm11Q Z o0 k0 nn h0 n0 v U'.heap L ∧ FrameEnd U o U' L ({ frames := 1, cells := 0, slots := 0, locals := 14 } : Room).cells ({ frames := 1, cells := 0, slots := 0, locals := 14 } : Room).slots) := by
  refine MetFree.of_bodySF (plainFor_of_name pn_11) hisR ?_
  intro p e s m args below meth c s₁ Bd hml0 hP hK
  obtain ⟨rfl, hZ, hh⟩ := hP
  have hx := Bd.exec
  have hby := Bd.bytes
  have hml : c.maxLocals = 5 := hml0
  have hown : s.vm.findClass "java/util/Arrays" = some m.cls := findClass_of_methodNamed Bd.named
  have hnm := (name_of_methodNamed Bd.named Bd.method).1
  have X0 : Stand p l e ({ frames := 1, cells := 0, slots := 0, locals := 14 } : Room) s m #[(.ref o0), (.int p1), (.int p2), (.int p3)] below meth c s₁ [] 0 0 := Stand.of_body Bd
  have e0 : s₁.heap = h0 := by rw [← hh, Bd.state]; rfl
  have N0 := Fr.nil n0
  have pre0 : ∀ t, Steps p.tables e below (s₁.setTop (mkF m 0 #[.val (.ref o0), .val (.int p1), .val (.int p2), .val (.int p3), .unset] [])) t → Steps p.tables e below (s₁.setTop (entryFrame m #[(.ref o0), (.int p1), (.int p2), (.int p3)] 5)) t := fun t k => castTop (ef_rm11 m o0 p1 p2 p3) k
  obtain ⟨vs1, hl1, cl1, Ar1, -, S1, N1', -, -⟩ := id A_o0
  obtain ⟨_, _, ⟨T2, L2, k2, n2⟩, -, X2, ⟨Lc2, hQ2, l2, y2, z2⟩, st2⟩ := Jvm.LawKit.callS X0 hx (y := (⟨"java/util/Arrays", "rangeCheck", "(III)V"⟩ : MethodName)) hown (mvT hZ (hw _ (oG (i := 96) rfl))) (mvT hZ (hw _ (oG (i := 97) rfl))) (mvT hZ (hw _ (oG (i := 94) rfl))) (mvT hZ (hw _ (oG (i := 98) rfl))) (by decide) (backOf (W := 0) (rm12 l Z aw hw [] nn p1 p2 h0 n0 Z0 hr1 hr2 hr3) hZ (hw _ (oG (i := 98) rfl)) (hw _ (oG (i := 94) rfl)) (by decide) (by decide)) (g := (mkF m 4 #[.val (.ref o0), .val (.int p1), .val (.int p2), .val (.int p3), .unset] [(.int p2), (.int p1), (.int nn)])) rfl (by rw [hml]; rfl) (argsL := [(.int nn), (.int p1), (.int p2)]) (rest := []) (lenOf pd_rm11_0 rfl) rfl (by show 2 * 0 + _ ≤ _; exact Nat.le_of_eq rfl) (hb hby d11_4) (fun _ _ => ⟨rfl, e0, (by decide : 0 + 0 ≤ _), (by decide : 0 + 0 ≤ _)⟩)
  dsimp only [Pt.U, Pt.locs, Pt.cells, Pt.slots] at X2 l2 y2 z2 st2 hQ2
  subst l2 y2 z2
  obtain ⟨rfl, N2q, e2q⟩ := hQ2
  have N2 := Fr.app N0 N2q
  have pre3 : ∀ t, Steps p.tables e below (T2.setTop (mkF m 10 #[.val (.ref o0), .val (.int p1), .val (.int p2), .val (.int p3), .val (.int p1)] [])) t → Steps p.tables e below (s₁.setTop (entryFrame m #[(.ref o0), (.int p1), (.int p2), (.int p3)] 5)) t := fun t k => pre0 t (by
    show Steps p.tables e below (s₁.setTop (mkF m 0 #[.val (.ref o0), .val (.int p1), .val (.int p2), .val (.int p3), .unset] [])) _
    refine XS.aloadN X0.here hx rfl (hb hby d11_0) rfl rfl ?_
    show Steps p.tables e below (s₁.setTop (mkF m 1 #[.val (.ref o0), .val (.int p1), .val (.int p2), .val (.int p3), .unset] [(.ref o0)])) _
    refine X0.arraylength hx (by rw [e0]; exact Ar1.1) (State.isArrayOf_alike hZ.alike Ar1.2.1) (g := (mkF m 1 #[.val (.ref o0), .val (.int p1), .val (.int p2), .val (.int p3), .unset] [(.ref o0)])) rfl rfl (hb hby d11_1) _ ?_
    rw [len_of S1 N1']
    show Steps p.tables e below (s₁.setTop (mkF m 2 #[.val (.ref o0), .val (.int p1), .val (.int p2), .val (.int p3), .unset] [(.int nn)])) _
    refine XS.iloadN X0.here hx rfl (hb hby d11_2) rfl ?_
    refine XS.iloadN X0.here hx rfl (hb hby d11_3) rfl ?_
    show Steps p.tables e below (s₁.setTop (mkF m 4 #[.val (.ref o0), .val (.int p1), .val (.int p2), .val (.int p3), .unset] [(.int p2), (.int p1), (.int nn)])) _
    refine st2 _ ?_
    show Steps p.tables e below (T2.setTop (mkF m 7 #[.val (.ref o0), .val (.int p1), .val (.int p2), .val (.int p3), .unset] [])) _
    refine XS.iloadN X2.here hx rfl (hb hby d11_7) rfl ?_
    refine XS.istore X2.here hx rfl (hb hby d11_8) rfl (l' := #[.val (.ref o0), .val (.int p1), .val (.int p2), .val (.int p3), .val (.int p1)]) rfl ?_
    exact k)
  have loop : ∀ (k : Nat) (i : Int32) (Tl : State) (hl : Heap) (Ll : List Loc), Stand p l e ({ frames := 1, cells := 0, slots := 0, locals := 14 } : Room) s m #[(.ref o0), (.int p1), (.int p2), (.int p3)] below meth c Tl Ll 0 0 → Tl.heap = hl → Fr n0 Ll → Keep h0 hl [o0] → own_Arf Z hl o0 k0 .int nn (.int (0:Int32)) → ¬ i < (0:Int32) → p2.toInt - i.toInt ≤ k → ∃ (i' : Int32) (T' : State) (h' : Heap) (L' : List Loc), Stand p l e ({ frames := 1, cells := 0, slots := 0, locals := 14 } : Room) s m #[(.ref o0), (.int p1), (.int p2), (.int p3)] below meth c T' L' 0 0 ∧ T'.heap = h' ∧ Fr n0 L' ∧ Keep h0 h' [o0] ∧ own_Arf Z h' o0 k0 .int nn (.int (0:Int32)) ∧ ∀ t, Steps p.tables e below (T'.setTop (mkF m 27 #[.val (.ref o0), .val (.int p1), .val (.int p2), .val (.int p3), .val (.int i')] [])) t → Steps p.tables e below (Tl.setTop (mkF m 10 #[.val (.ref o0), .val (.int p1), .val (.int p2), .val (.int p3), .val (.int i)] [])) t := by
    intro k
    induction k with
    | zero =>
      intro i Tl hl Ll Xl el Nl Kl Al hi hk
      have hlt : ¬ i < p2 := own_ge hk
      have pZ : ∀ t, Steps p.tables e below (Tl.setTop (mkF m 10 #[.val (.ref o0), .val (.int p1), .val (.int p2), .val (.int p3), .val (.int i)] [])) t → Steps p.tables e below (Tl.setTop (mkF m 10 #[.val (.ref o0), .val (.int p1), .val (.int p2), .val (.int p3), .val (.int i)] [])) t := fun t k => k
      refine ⟨i, Tl, hl, Ll, Xl, el, Nl, Kl, Al, fun t k => pZ t ?_⟩
      show Steps p.tables e below (Tl.setTop (mkF m 10 #[.val (.ref o0), .val (.int p1), .val (.int p2), .val (.int p3), .val (.int i)] [])) _
      refine XS.iload Xl.here hx rfl (hb hby d11_10) rfl ?_
      refine XS.iloadN Xl.here hx rfl (hb hby d11_12) rfl ?_
      refine XS.icmpYes Xl.here hx rfl (pc0 := 13) (pc' := 27) rfl (hb hby d11_13) rfl (flt (hlt : ¬ (i < p2))).2.1 (by decide) (by decide) ?_
      exact k
    | succ k ih =>
      intro i Tl hl Ll Xl el Nl Kl Al hi hk
      have pZ : ∀ t, Steps p.tables e below (Tl.setTop (mkF m 10 #[.val (.ref o0), .val (.int p1), .val (.int p2), .val (.int p3), .val (.int i)] [])) t → Steps p.tables e below (Tl.setTop (mkF m 10 #[.val (.ref o0), .val (.int p1), .val (.int p2), .val (.int p3), .val (.int i)] [])) t := fun t k => k
      by_cases hlt : i < p2
      · obtain ⟨vs4, hl4, cl4, Ar4, q4, S4, N4', H4, G4⟩ := id Al
        have hin4 : ¬ (i < 0 ∨ cl4.slots.size ≤ (i).toNatClampNeg) := inb_of S4 (own_inF hi hlt hr3)
        obtain ⟨T5, h5, X5, e5, W5, st5⟩ := stI Xl hx hZ el Ar4 (j := i) hin4 (g := (mkF m 20 #[.val (.ref o0), .val (.int p1), .val (.int p2), .val (.int p3), .val (.int i)] [(.int p3), (.int i), (.ref o0)])) rfl rfl (hb hby d11_20)
        have As5 : own_Arf Z h5 o0 k0 .int nn (.int (0:Int32)) := own_arfW hl4 Ar4 q4 S4 N4' H4 G4 rfl W5 hin4
        have N5 := Fr.snoc X5 Nl g_o0
        have hnx := own_nxF hi hlt hk
        have Kn : Keep h0 h5 [o0] := Kl.wr W5 (Or.inl (oG (i := 0) rfl))
        obtain ⟨i', T', h', L', X', e', N', K', A', st'⟩ := ih (i + (1:Int32)) T5 h5 _ X5 e5 N5 Kn As5 hnx.1 hnx.2
        refine ⟨i', T', h', L', X', e', N', K', A', fun t k => pZ t ?_⟩
        show Steps p.tables e below (Tl.setTop (mkF m 10 #[.val (.ref o0), .val (.int p1), .val (.int p2), .val (.int p3), .val (.int i)] [])) _
        refine XS.iload Xl.here hx rfl (hb hby d11_10) rfl ?_
        refine XS.iloadN Xl.here hx rfl (hb hby d11_12) rfl ?_
        refine XS.icmpNo Xl.here hx rfl (hb hby d11_13) rfl (tlt (hlt : i < p2)).2.1 ?_
        refine XS.aloadN Xl.here hx rfl (hb hby d11_16) rfl rfl ?_
        refine XS.iload Xl.here hx rfl (hb hby d11_17) rfl ?_
        refine XS.iloadN Xl.here hx rfl (hb hby d11_19) rfl ?_
        show Steps p.tables e below (Tl.setTop (mkF m 20 #[.val (.ref o0), .val (.int p1), .val (.int p2), .val (.int p3), .val (.int i)] [(.int p3), (.int i), (.ref o0)])) _
        refine st5 _ ?_
        show Steps p.tables e below (T5.setTop (mkF m 21 #[.val (.ref o0), .val (.int p1), .val (.int p2), .val (.int p3), .val (.int i)] [])) _
        refine XS.iinc X5.here hx rfl (hb hby d11_21) rfl (l' := #[.val (.ref o0), .val (.int p1), .val (.int p2), .val (.int p3), .val (.int (i + (1:Int32)))]) rfl ?_
        refine XS.goto X5.here hx rfl (pc0 := 24) (pc' := 10) rfl (hb hby d11_24) (by decide) (by decide) ?_
        exact st' t k
      · refine ⟨i, Tl, hl, Ll, Xl, el, Nl, Kl, Al, fun t k => pZ t ?_⟩
        show Steps p.tables e below (Tl.setTop (mkF m 10 #[.val (.ref o0), .val (.int p1), .val (.int p2), .val (.int p3), .val (.int i)] [])) _
        refine XS.iload Xl.here hx rfl (hb hby d11_10) rfl ?_
        refine XS.iloadN Xl.here hx rfl (hb hby d11_12) rfl ?_
        refine XS.icmpYes Xl.here hx rfl (pc0 := 13) (pc' := 27) rfl (hb hby d11_13) rfl (flt (hlt : ¬ (i < p2))).2.1 (by decide) (by decide) ?_
        exact k
  obtain ⟨i', T', h', L', X', e', N', K', A', st'⟩ := loop 3 p1 T2 h0 _ X2 e2q N2 (Keep.refl h0 [o0]) A_o0 hr2 hr4
  have pre6 : ∀ t, Steps p.tables e below (T'.setTop (mkF m 27 #[.val (.ref o0), .val (.int p1), .val (.int p2), .val (.int p3), .val (.int i')] [])) t → Steps p.tables e below (s₁.setTop (entryFrame m #[(.ref o0), (.int p1), (.int p2), (.int p3)] 5)) t := fun t k => pre3 t (st' t k)
  obtain ⟨fs, hr, hrun, hended, hW, hsame⟩ := X'.leave (v := none) (fun _ => rfl)
  refine ⟨_, _, pre6 _ ?_, hrun, hended, _, _, rfl, ?_, ⟨_, rfl⟩, hW, hsame.mono (by decide) (by decide)⟩
  · show Steps p.tables e below (T'.setTop (mkF m 27 #[.val (.ref o0), .val (.int p1), .val (.int p2), .val (.int p3), .val (.int i')] [])) _
    exact X'.returnOut hx Bd.returns (hb hby d11_27) hr
  · show rm11Q Z o0 k0 nn h0 n0 _ T'.heap _
    rw [e']
    exact ⟨rfl, N', K', A'⟩
theorem d13_0 : decode prog_92_method_9_code 0 = .ok (.aload_n 0, 1) := by decide +kernel
theorem d13_1 : decode prog_92_method_9_code 1 = .ok (.getfield 14, 3) := by decide +kernel
theorem d13_4 : decode prog_92_method_9_code 4 = .ok (.iload_n 1, 1) := by decide +kernel
theorem d13_5 : decode prog_92_method_9_code 5 = .ok (.iaload, 1) := by decide +kernel
theorem d13_6 : decode prog_92_method_9_code 6 = .ok (.ireturn, 1) := by decide +kernel
theorem pn_13 : plainName "com/example/tavola/tavola/profile/RowBatch" = true := by first | (simp [plainName, overriddenIn]; done) | decide +kernel
theorem ef_rm13_0 (m : MethodId) (o0 : Nat) : entryFrame m #[(.ref o0), (.int (0:Int32))] 2 = mkF m 0 #[.val (.ref o0), .val (.int (0:Int32))] [] := by first | (simp [entryFrame, mkF, argsToLocals, Value.category]; done) | rfl
def rm13_0Q (Z : State) (o0 : Nat) (u0 u1 u2 : Int32) (h0 : Heap) (n0 : Nat) (v : Option Value) (h : Heap) (L : List Loc) : Prop := v = some (.int u0) ∧ Fr n0 L ∧ h = h0
set_option maxRecDepth 65536 in
set_option maxHeartbeats 40000000 in
theorem rm13_0 (l : Launch) (Z : State) (aw : Array Value) (hw : ∀ d ∈ tables_1, d.before aw Z = true) (ws : List Jvm.Cond) (o0 : Nat) (be : Nat) (ke : ClassId) (u0 u1 u2 : Int32) (h0 : Heap) (n0 : Nat) (Z0 : n0 ≤ h0.size) (F_e : Fld Z h0 o0 "com/example/tavola/tavola/profile/RowBatch" "keyEnds" "[I" (.ref be)) (V_be : Arv Z h0 be ke .int (1024:Int32) [(.int u0), (.int u1), (.int u2)] (.int (0:Int32))) :
    MetFree l (⟨"com/example/tavola/tavola/profile/RowBatch", "keyEnd", "(I)I"⟩ : MethodName) (head1 (Jvm.Cond.code (⟨"com/example/tavola/tavola/profile/RowBatch", "keyEnd", "(I)I"⟩ : MethodName) prog_92_method_9_code 2 (some .int) :: ws) ({ frames := 0, cells := 0, slots := 0, locals := 0 } : Room)) (fun a U => a = #[(.ref o0), (.int (0:Int32))] ∧ Z.Warmed39 U.vm ∧ U.heap = h0) (fun _ _ _ _ _ => True) (fun _ U o U' => ∃ v L, o = .returned v ∧ rm13_0Q Z o0 u0 u1 u2 h0 n0 v U'.heap L ∧ FrameEnd U o U' L ({ frames := 0, cells := 0, slots := 0, locals := 0 } : Room).cells ({ frames := 0, cells := 0, slots := 0, locals := 0 } : Room).slots) := by
  refine MetFree.of_bodySF (plainFor_of_name pn_13) hisR ?_
  intro p e s m args below meth c s₁ Bd hml0 hP hK
  obtain ⟨rfl, hZ, hh⟩ := hP
  have hx := Bd.exec
  have hby := Bd.bytes
  have hml : c.maxLocals = 2 := hml0
  have hown : s.vm.findClass "com/example/tavola/tavola/profile/RowBatch" = some m.cls := findClass_of_methodNamed Bd.named
  have hnm := (name_of_methodNamed Bd.named Bd.method).1
  have X0 : Stand p l e ({ frames := 0, cells := 0, slots := 0, locals := 0 } : Room) s m #[(.ref o0), (.int (0:Int32))] below meth c s₁ [] 0 0 := Stand.of_body Bd
  have e0 : s₁.heap = h0 := by rw [← hh, Bd.state]; rfl
  have N0 := Fr.nil n0
  have pre0 : ∀ t, Steps p.tables e below (s₁.setTop (mkF m 0 #[.val (.ref o0), .val (.int (0:Int32))] [])) t → Steps p.tables e below (s₁.setTop (entryFrame m #[(.ref o0), (.int (0:Int32))] 2)) t := fun t k => castTop (ef_rm13_0 m o0) k
  obtain ⟨T1, X1, e1, st1⟩ := getF X0 hx hZ hown (host := "") (Or.inl (hw _ (oG (i := 36) rfl))) Via.refl e0 F_e (g := (mkF m 1 #[.val (.ref o0), .val (.int (0:Int32))] [(.ref o0)])) rfl rfl (hb hby d13_1)
  obtain ⟨cl2, Ar2, q2, S2, N2', H2, G2⟩ := id V_be
  have hin2 : ¬ ((0:Int32) < 0 ∨ cl2.slots.size ≤ ((0:Int32)).toNatClampNeg) := inb_of S2 ⟨by decide, by decide⟩
  obtain ⟨fs, hr, hrun, hended, hW, hsame⟩ := X1.leave (v := some (.int u0)) (fun h => by rw [Bd.returns] at h; cases h)
  refine ⟨_, _, pre0 _ ?_, hrun, hended, _, _, rfl, ?_, ⟨_, rfl⟩, hW, hsame.mono (by decide) (by decide)⟩
  · show Steps p.tables e below (s₁.setTop (mkF m 0 #[.val (.ref o0), .val (.int (0:Int32))] [])) _
    refine XS.aloadN X0.here hx rfl (hb hby d13_0) rfl rfl ?_
    show Steps p.tables e below (s₁.setTop (mkF m 1 #[.val (.ref o0), .val (.int (0:Int32))] [(.ref o0)])) _
    refine st1 _ ?_
    show Steps p.tables e below (T1.setTop (mkF m 4 #[.val (.ref o0), .val (.int (0:Int32))] [(.ref be)])) _
    refine XS.iloadN X1.here hx rfl (hb hby d13_4) rfl ?_
    show Steps p.tables e below (T1.setTop (mkF m 5 #[.val (.ref o0), .val (.int (0:Int32))] [(.int (0:Int32)), (.ref be)])) _
    refine X1.iaload hx (j := (0:Int32)) (v := (.int u0)) (by rw [e1]; exact Ar2.1) (State.isArrayOf_alike hZ.alike Ar2.2.1) Ar2.2.2 hin2 (H2.at hin2 rfl) (g := (mkF m 5 #[.val (.ref o0), .val (.int (0:Int32))] [(.int (0:Int32)), (.ref be)])) rfl rfl (hb hby d13_5) _ ?_
    show Steps p.tables e below (T1.setTop (mkF m 6 #[.val (.ref o0), .val (.int (0:Int32))] [(.int u0)])) _
    exact retI X1 hx Bd.returns (hb hby d13_6) hr
  · show rm13_0Q Z o0 u0 u1 u2 h0 n0 _ T1.heap _
    rw [e1]
    exact ⟨rfl, N0, rfl⟩
theorem ef_rm13_1 (m : MethodId) (o0 : Nat) : entryFrame m #[(.ref o0), (.int (1:Int32))] 2 = mkF m 0 #[.val (.ref o0), .val (.int (1:Int32))] [] := by first | (simp [entryFrame, mkF, argsToLocals, Value.category]; done) | rfl
def rm13_1Q (Z : State) (o0 : Nat) (u0 u1 u2 : Int32) (h0 : Heap) (n0 : Nat) (v : Option Value) (h : Heap) (L : List Loc) : Prop := v = some (.int u1) ∧ Fr n0 L ∧ h = h0
set_option maxRecDepth 65536 in
set_option maxHeartbeats 40000000 in
theorem rm13_1 (l : Launch) (Z : State) (aw : Array Value) (hw : ∀ d ∈ tables_1, d.before aw Z = true) (ws : List Jvm.Cond) (o0 : Nat) (be : Nat) (ke : ClassId) (u0 u1 u2 : Int32) (h0 : Heap) (n0 : Nat) (Z0 : n0 ≤ h0.size) (F_e : Fld Z h0 o0 "com/example/tavola/tavola/profile/RowBatch" "keyEnds" "[I" (.ref be)) (V_be : Arv Z h0 be ke .int (1024:Int32) [(.int u0), (.int u1), (.int u2)] (.int (0:Int32))) :
    MetFree l (⟨"com/example/tavola/tavola/profile/RowBatch", "keyEnd", "(I)I"⟩ : MethodName) (head1 (Jvm.Cond.code (⟨"com/example/tavola/tavola/profile/RowBatch", "keyEnd", "(I)I"⟩ : MethodName) prog_92_method_9_code 2 (some .int) :: ws) ({ frames := 0, cells := 0, slots := 0, locals := 0 } : Room)) (fun a U => a = #[(.ref o0), (.int (1:Int32))] ∧ Z.Warmed39 U.vm ∧ U.heap = h0) (fun _ _ _ _ _ => True) (fun _ U o U' => ∃ v L, o = .returned v ∧ rm13_1Q Z o0 u0 u1 u2 h0 n0 v U'.heap L ∧ FrameEnd U o U' L ({ frames := 0, cells := 0, slots := 0, locals := 0 } : Room).cells ({ frames := 0, cells := 0, slots := 0, locals := 0 } : Room).slots) := by
  refine MetFree.of_bodySF (plainFor_of_name pn_13) hisR ?_
  intro p e s m args below meth c s₁ Bd hml0 hP hK
  obtain ⟨rfl, hZ, hh⟩ := hP
  have hx := Bd.exec
  have hby := Bd.bytes
  have hml : c.maxLocals = 2 := hml0
  have hown : s.vm.findClass "com/example/tavola/tavola/profile/RowBatch" = some m.cls := findClass_of_methodNamed Bd.named
  have hnm := (name_of_methodNamed Bd.named Bd.method).1
  have X0 : Stand p l e ({ frames := 0, cells := 0, slots := 0, locals := 0 } : Room) s m #[(.ref o0), (.int (1:Int32))] below meth c s₁ [] 0 0 := Stand.of_body Bd
  have e0 : s₁.heap = h0 := by rw [← hh, Bd.state]; rfl
  have N0 := Fr.nil n0
  have pre0 : ∀ t, Steps p.tables e below (s₁.setTop (mkF m 0 #[.val (.ref o0), .val (.int (1:Int32))] [])) t → Steps p.tables e below (s₁.setTop (entryFrame m #[(.ref o0), (.int (1:Int32))] 2)) t := fun t k => castTop (ef_rm13_1 m o0) k
  obtain ⟨T1, X1, e1, st1⟩ := getF X0 hx hZ hown (host := "") (Or.inl (hw _ (oG (i := 36) rfl))) Via.refl e0 F_e (g := (mkF m 1 #[.val (.ref o0), .val (.int (1:Int32))] [(.ref o0)])) rfl rfl (hb hby d13_1)
  obtain ⟨cl2, Ar2, q2, S2, N2', H2, G2⟩ := id V_be
  have hin2 : ¬ ((1:Int32) < 0 ∨ cl2.slots.size ≤ ((1:Int32)).toNatClampNeg) := inb_of S2 ⟨by decide, by decide⟩
  obtain ⟨fs, hr, hrun, hended, hW, hsame⟩ := X1.leave (v := some (.int u1)) (fun h => by rw [Bd.returns] at h; cases h)
  refine ⟨_, _, pre0 _ ?_, hrun, hended, _, _, rfl, ?_, ⟨_, rfl⟩, hW, hsame.mono (by decide) (by decide)⟩
  · show Steps p.tables e below (s₁.setTop (mkF m 0 #[.val (.ref o0), .val (.int (1:Int32))] [])) _
    refine XS.aloadN X0.here hx rfl (hb hby d13_0) rfl rfl ?_
    show Steps p.tables e below (s₁.setTop (mkF m 1 #[.val (.ref o0), .val (.int (1:Int32))] [(.ref o0)])) _
    refine st1 _ ?_
    show Steps p.tables e below (T1.setTop (mkF m 4 #[.val (.ref o0), .val (.int (1:Int32))] [(.ref be)])) _
    refine XS.iloadN X1.here hx rfl (hb hby d13_4) rfl ?_
    show Steps p.tables e below (T1.setTop (mkF m 5 #[.val (.ref o0), .val (.int (1:Int32))] [(.int (1:Int32)), (.ref be)])) _
    refine X1.iaload hx (j := (1:Int32)) (v := (.int u1)) (by rw [e1]; exact Ar2.1) (State.isArrayOf_alike hZ.alike Ar2.2.1) Ar2.2.2 hin2 (H2.at hin2 rfl) (g := (mkF m 5 #[.val (.ref o0), .val (.int (1:Int32))] [(.int (1:Int32)), (.ref be)])) rfl rfl (hb hby d13_5) _ ?_
    show Steps p.tables e below (T1.setTop (mkF m 6 #[.val (.ref o0), .val (.int (1:Int32))] [(.int u1)])) _
    exact retI X1 hx Bd.returns (hb hby d13_6) hr
  · show rm13_1Q Z o0 u0 u1 u2 h0 n0 _ T1.heap _
    rw [e1]
    exact ⟨rfl, N0, rfl⟩
theorem ef_rm13_2 (m : MethodId) (o0 : Nat) : entryFrame m #[(.ref o0), (.int (2:Int32))] 2 = mkF m 0 #[.val (.ref o0), .val (.int (2:Int32))] [] := by first | (simp [entryFrame, mkF, argsToLocals, Value.category]; done) | rfl
def rm13_2Q (Z : State) (o0 : Nat) (u0 u1 u2 : Int32) (h0 : Heap) (n0 : Nat) (v : Option Value) (h : Heap) (L : List Loc) : Prop := v = some (.int u2) ∧ Fr n0 L ∧ h = h0
set_option maxRecDepth 65536 in
set_option maxHeartbeats 40000000 in
theorem rm13_2 (l : Launch) (Z : State) (aw : Array Value) (hw : ∀ d ∈ tables_1, d.before aw Z = true) (ws : List Jvm.Cond) (o0 : Nat) (be : Nat) (ke : ClassId) (u0 u1 u2 : Int32) (h0 : Heap) (n0 : Nat) (Z0 : n0 ≤ h0.size) (F_e : Fld Z h0 o0 "com/example/tavola/tavola/profile/RowBatch" "keyEnds" "[I" (.ref be)) (V_be : Arv Z h0 be ke .int (1024:Int32) [(.int u0), (.int u1), (.int u2)] (.int (0:Int32))) :
    MetFree l (⟨"com/example/tavola/tavola/profile/RowBatch", "keyEnd", "(I)I"⟩ : MethodName) (head1 (Jvm.Cond.code (⟨"com/example/tavola/tavola/profile/RowBatch", "keyEnd", "(I)I"⟩ : MethodName) prog_92_method_9_code 2 (some .int) :: ws) ({ frames := 0, cells := 0, slots := 0, locals := 0 } : Room)) (fun a U => a = #[(.ref o0), (.int (2:Int32))] ∧ Z.Warmed39 U.vm ∧ U.heap = h0) (fun _ _ _ _ _ => True) (fun _ U o U' => ∃ v L, o = .returned v ∧ rm13_2Q Z o0 u0 u1 u2 h0 n0 v U'.heap L ∧ FrameEnd U o U' L ({ frames := 0, cells := 0, slots := 0, locals := 0 } : Room).cells ({ frames := 0, cells := 0, slots := 0, locals := 0 } : Room).slots) := by
  refine MetFree.of_bodySF (plainFor_of_name pn_13) hisR ?_
  intro p e s m args below meth c s₁ Bd hml0 hP hK
  obtain ⟨rfl, hZ, hh⟩ := hP
  have hx := Bd.exec
  have hby := Bd.bytes
  have hml : c.maxLocals = 2 := hml0
  have hown : s.vm.findClass "com/example/tavola/tavola/profile/RowBatch" = some m.cls := findClass_of_methodNamed Bd.named
  have hnm := (name_of_methodNamed Bd.named Bd.method).1
  have X0 : Stand p l e ({ frames := 0, cells := 0, slots := 0, locals := 0 } : Room) s m #[(.ref o0), (.int (2:Int32))] below meth c s₁ [] 0 0 := Stand.of_body Bd
  have e0 : s₁.heap = h0 := by rw [← hh, Bd.state]; rfl
  have N0 := Fr.nil n0
  have pre0 : ∀ t, Steps p.tables e below (s₁.setTop (mkF m 0 #[.val (.ref o0), .val (.int (2:Int32))] [])) t → Steps p.tables e below (s₁.setTop (entryFrame m #[(.ref o0), (.int (2:Int32))] 2)) t := fun t k => castTop (ef_rm13_2 m o0) k
  obtain ⟨T1, X1, e1, st1⟩ := getF X0 hx hZ hown (host := "") (Or.inl (hw _ (oG (i := 36) rfl))) Via.refl e0 F_e (g := (mkF m 1 #[.val (.ref o0), .val (.int (2:Int32))] [(.ref o0)])) rfl rfl (hb hby d13_1)
  obtain ⟨cl2, Ar2, q2, S2, N2', H2, G2⟩ := id V_be
  have hin2 : ¬ ((2:Int32) < 0 ∨ cl2.slots.size ≤ ((2:Int32)).toNatClampNeg) := inb_of S2 ⟨by decide, by decide⟩
  obtain ⟨fs, hr, hrun, hended, hW, hsame⟩ := X1.leave (v := some (.int u2)) (fun h => by rw [Bd.returns] at h; cases h)
  refine ⟨_, _, pre0 _ ?_, hrun, hended, _, _, rfl, ?_, ⟨_, rfl⟩, hW, hsame.mono (by decide) (by decide)⟩
  · show Steps p.tables e below (s₁.setTop (mkF m 0 #[.val (.ref o0), .val (.int (2:Int32))] [])) _
    refine XS.aloadN X0.here hx rfl (hb hby d13_0) rfl rfl ?_
    show Steps p.tables e below (s₁.setTop (mkF m 1 #[.val (.ref o0), .val (.int (2:Int32))] [(.ref o0)])) _
    refine st1 _ ?_
    show Steps p.tables e below (T1.setTop (mkF m 4 #[.val (.ref o0), .val (.int (2:Int32))] [(.ref be)])) _
    refine XS.iloadN X1.here hx rfl (hb hby d13_4) rfl ?_
    show Steps p.tables e below (T1.setTop (mkF m 5 #[.val (.ref o0), .val (.int (2:Int32))] [(.int (2:Int32)), (.ref be)])) _
    refine X1.iaload hx (j := (2:Int32)) (v := (.int u2)) (by rw [e1]; exact Ar2.1) (State.isArrayOf_alike hZ.alike Ar2.2.1) Ar2.2.2 hin2 (H2.at hin2 rfl) (g := (mkF m 5 #[.val (.ref o0), .val (.int (2:Int32))] [(.int (2:Int32)), (.ref be)])) rfl rfl (hb hby d13_5) _ ?_
    show Steps p.tables e below (T1.setTop (mkF m 6 #[.val (.ref o0), .val (.int (2:Int32))] [(.int u2)])) _
    exact retI X1 hx Bd.returns (hb hby d13_6) hr
  · show rm13_2Q Z o0 u0 u1 u2 h0 n0 _ T1.heap _
    rw [e1]
    exact ⟨rfl, N0, rfl⟩
theorem d4_0 : decode prog_92_method_8_code 0 = .ok (.iload_n 1, 1) := by decide +kernel
theorem d4_1 : decode prog_92_method_8_code 1 = .ok (.ifCond .ne 7, 3) := by decide +kernel
theorem d4_4 : decode prog_92_method_8_code 4 = .ok (.iconst 0, 1) := by decide +kernel
theorem d4_5 : decode prog_92_method_8_code 5 = .ok (.goto 11, 3) := by decide +kernel
theorem d4_16 : decode prog_92_method_8_code 16 = .ok (.ireturn, 1) := by decide +kernel
theorem pn_4 : plainName "com/example/tavola/tavola/profile/RowBatch" = true := by first | (simp [plainName, overriddenIn]; done) | decide +kernel
theorem ef_rm4_0 (m : MethodId) (o0 : Nat) : entryFrame m #[(.ref o0), (.int (0:Int32))] 2 = mkF m 0 #[.val (.ref o0), .val (.int (0:Int32))] [] := by first | (simp [entryFrame, mkF, argsToLocals, Value.category]; done) | rfl
def rm4_0Q (Z : State) (o0 : Nat) (u0 u1 u2 : Int32) (h0 : Heap) (n0 : Nat) (v : Option Value) (h : Heap) (L : List Loc) : Prop := v = some (.int (0:Int32)) ∧ Fr n0 L ∧ h = h0
set_option maxRecDepth 65536 in
set_option maxHeartbeats 40000000 in
theorem rm4_0 (l : Launch) (Z : State) (aw : Array Value) (hw : ∀ d ∈ tables_1, d.before aw Z = true) (ws : List Jvm.Cond) (o0 : Nat) (be : Nat) (ke : ClassId) (u0 u1 u2 : Int32) (h0 : Heap) (n0 : Nat) (Z0 : n0 ≤ h0.size) (F_e : Fld Z h0 o0 "com/example/tavola/tavola/profile/RowBatch" "keyEnds" "[I" (.ref be)) (V_be : Arv Z h0 be ke .int (1024:Int32) [(.int u0), (.int u1), (.int u2)] (.int (0:Int32))) :
    MetFree l (⟨"com/example/tavola/tavola/profile/RowBatch", "keyStart", "(I)I"⟩ : MethodName) (head1 (Jvm.Cond.code (⟨"com/example/tavola/tavola/profile/RowBatch", "keyStart", "(I)I"⟩ : MethodName) prog_92_method_8_code 2 (some .int) :: ws) ({ frames := 0, cells := 0, slots := 0, locals := 0 } : Room)) (fun a U => a = #[(.ref o0), (.int (0:Int32))] ∧ Z.Warmed39 U.vm ∧ U.heap = h0) (fun _ _ _ _ _ => True) (fun _ U o U' => ∃ v L, o = .returned v ∧ rm4_0Q Z o0 u0 u1 u2 h0 n0 v U'.heap L ∧ FrameEnd U o U' L ({ frames := 0, cells := 0, slots := 0, locals := 0 } : Room).cells ({ frames := 0, cells := 0, slots := 0, locals := 0 } : Room).slots) := by
  refine MetFree.of_bodySF (plainFor_of_name pn_4) hisR ?_
  intro p e s m args below meth c s₁ Bd hml0 hP hK
  obtain ⟨rfl, hZ, hh⟩ := hP
  have hx := Bd.exec
  have hby := Bd.bytes
  have hml : c.maxLocals = 2 := hml0
  have hown : s.vm.findClass "com/example/tavola/tavola/profile/RowBatch" = some m.cls := findClass_of_methodNamed Bd.named
  have hnm := (name_of_methodNamed Bd.named Bd.method).1
  have X0 : Stand p l e ({ frames := 0, cells := 0, slots := 0, locals := 0 } : Room) s m #[(.ref o0), (.int (0:Int32))] below meth c s₁ [] 0 0 := Stand.of_body Bd
  have e0 : s₁.heap = h0 := by rw [← hh, Bd.state]; rfl
  have N0 := Fr.nil n0
  have pre0 : ∀ t, Steps p.tables e below (s₁.setTop (mkF m 0 #[.val (.ref o0), .val (.int (0:Int32))] [])) t → Steps p.tables e below (s₁.setTop (entryFrame m #[(.ref o0), (.int (0:Int32))] 2)) t := fun t k => castTop (ef_rm4_0 m o0) k
  obtain ⟨fs, hr, hrun, hended, hW, hsame⟩ := X0.leave (v := some (.int (0:Int32))) (fun h => by rw [Bd.returns] at h; cases h)
  refine ⟨_, _, pre0 _ ?_, hrun, hended, _, _, rfl, ?_, ⟨_, rfl⟩, hW, hsame.mono (by decide) (by decide)⟩
  · show Steps p.tables e below (s₁.setTop (mkF m 0 #[.val (.ref o0), .val (.int (0:Int32))] [])) _
    refine XS.iloadN X0.here hx rfl (hb hby d4_0) rfl ?_
    refine XS.ifNo X0.here hx rfl (hb hby d4_1) rfl ((if0 _ _).trans (teq (rfl : (0:Int32) = (0:Int32))).2) ?_
    refine XS.iconst X0.here hx rfl (hb hby d4_4) ?_
    refine XS.goto X0.here hx rfl (pc0 := 5) (pc' := 16) rfl (hb hby d4_5) (by decide) (by decide) ?_
    show Steps p.tables e below (s₁.setTop (mkF m 16 #[.val (.ref o0), .val (.int (0:Int32))] [(.int (0:Int32))])) _
    exact retI X0 hx Bd.returns (hb hby d4_16) hr
  · show rm4_0Q Z o0 u0 u1 u2 h0 n0 _ s₁.heap _
    rw [e0]
    exact ⟨rfl, N0, rfl⟩
theorem d4_8 : decode prog_92_method_8_code 8 = .ok (.aload_n 0, 1) := by decide +kernel
theorem d4_9 : decode prog_92_method_8_code 9 = .ok (.getfield 14, 3) := by decide +kernel
theorem d4_12 : decode prog_92_method_8_code 12 = .ok (.iload_n 1, 1) := by decide +kernel
theorem d4_13 : decode prog_92_method_8_code 13 = .ok (.iconst 1, 1) := by decide +kernel
theorem d4_14 : decode prog_92_method_8_code 14 = .ok (.isub, 1) := by decide +kernel
theorem d4_15 : decode prog_92_method_8_code 15 = .ok (.iaload, 1) := by decide +kernel
theorem ef_rm4_1 (m : MethodId) (o0 : Nat) : entryFrame m #[(.ref o0), (.int (1:Int32))] 2 = mkF m 0 #[.val (.ref o0), .val (.int (1:Int32))] [] := by first | (simp [entryFrame, mkF, argsToLocals, Value.category]; done) | rfl
def rm4_1Q (Z : State) (o0 : Nat) (u0 u1 u2 : Int32) (h0 : Heap) (n0 : Nat) (v : Option Value) (h : Heap) (L : List Loc) : Prop := v = some (.int u0) ∧ Fr n0 L ∧ h = h0
set_option maxRecDepth 65536 in
set_option maxHeartbeats 40000000 in
theorem rm4_1 (l : Launch) (Z : State) (aw : Array Value) (hw : ∀ d ∈ tables_1, d.before aw Z = true) (ws : List Jvm.Cond) (o0 : Nat) (be : Nat) (ke : ClassId) (u0 u1 u2 : Int32) (h0 : Heap) (n0 : Nat) (Z0 : n0 ≤ h0.size) (F_e : Fld Z h0 o0 "com/example/tavola/tavola/profile/RowBatch" "keyEnds" "[I" (.ref be)) (V_be : Arv Z h0 be ke .int (1024:Int32) [(.int u0), (.int u1), (.int u2)] (.int (0:Int32))) :
    MetFree l (⟨"com/example/tavola/tavola/profile/RowBatch", "keyStart", "(I)I"⟩ : MethodName) (head1 (Jvm.Cond.code (⟨"com/example/tavola/tavola/profile/RowBatch", "keyStart", "(I)I"⟩ : MethodName) prog_92_method_8_code 2 (some .int) :: ws) ({ frames := 0, cells := 0, slots := 0, locals := 0 } : Room)) (fun a U => a = #[(.ref o0), (.int (1:Int32))] ∧ Z.Warmed39 U.vm ∧ U.heap = h0) (fun _ _ _ _ _ => True) (fun _ U o U' => ∃ v L, o = .returned v ∧ rm4_1Q Z o0 u0 u1 u2 h0 n0 v U'.heap L ∧ FrameEnd U o U' L ({ frames := 0, cells := 0, slots := 0, locals := 0 } : Room).cells ({ frames := 0, cells := 0, slots := 0, locals := 0 } : Room).slots) := by
  refine MetFree.of_bodySF (plainFor_of_name pn_4) hisR ?_
  intro p e s m args below meth c s₁ Bd hml0 hP hK
  obtain ⟨rfl, hZ, hh⟩ := hP
  have hx := Bd.exec
  have hby := Bd.bytes
  have hml : c.maxLocals = 2 := hml0
  have hown : s.vm.findClass "com/example/tavola/tavola/profile/RowBatch" = some m.cls := findClass_of_methodNamed Bd.named
  have hnm := (name_of_methodNamed Bd.named Bd.method).1
  have X0 : Stand p l e ({ frames := 0, cells := 0, slots := 0, locals := 0 } : Room) s m #[(.ref o0), (.int (1:Int32))] below meth c s₁ [] 0 0 := Stand.of_body Bd
  have e0 : s₁.heap = h0 := by rw [← hh, Bd.state]; rfl
  have N0 := Fr.nil n0
  have pre0 : ∀ t, Steps p.tables e below (s₁.setTop (mkF m 0 #[.val (.ref o0), .val (.int (1:Int32))] [])) t → Steps p.tables e below (s₁.setTop (entryFrame m #[(.ref o0), (.int (1:Int32))] 2)) t := fun t k => castTop (ef_rm4_1 m o0) k
  obtain ⟨T1, X1, e1, st1⟩ := getF X0 hx hZ hown (host := "") (Or.inl (hw _ (oG (i := 36) rfl))) Via.refl e0 F_e (g := (mkF m 9 #[.val (.ref o0), .val (.int (1:Int32))] [(.ref o0)])) rfl rfl (hb hby d4_9)
  obtain ⟨cl2, Ar2, q2, S2, N2', H2, G2⟩ := id V_be
  have hin2 : ¬ ((0:Int32) < 0 ∨ cl2.slots.size ≤ ((0:Int32)).toNatClampNeg) := inb_of S2 ⟨by decide, by decide⟩
  obtain ⟨fs, hr, hrun, hended, hW, hsame⟩ := X1.leave (v := some (.int u0)) (fun h => by rw [Bd.returns] at h; cases h)
  refine ⟨_, _, pre0 _ ?_, hrun, hended, _, _, rfl, ?_, ⟨_, rfl⟩, hW, hsame.mono (by decide) (by decide)⟩
  · show Steps p.tables e below (s₁.setTop (mkF m 0 #[.val (.ref o0), .val (.int (1:Int32))] [])) _
    refine XS.iloadN X0.here hx rfl (hb hby d4_0) rfl ?_
    refine XS.ifYes X0.here hx rfl (pc0 := 1) (pc' := 8) rfl (hb hby d4_1) rfl ((if0 _ _).trans (feq ((by decide) : ¬ ((1:Int32) = (0:Int32)))).2) (by decide) (by decide) ?_
    refine XS.aloadN X0.here hx rfl (hb hby d4_8) rfl rfl ?_
    show Steps p.tables e below (s₁.setTop (mkF m 9 #[.val (.ref o0), .val (.int (1:Int32))] [(.ref o0)])) _
    refine st1 _ ?_
    show Steps p.tables e below (T1.setTop (mkF m 12 #[.val (.ref o0), .val (.int (1:Int32))] [(.ref be)])) _
    refine XS.iloadN X1.here hx rfl (hb hby d4_12) rfl ?_
    refine XS.iconst X1.here hx rfl (hb hby d4_13) ?_
    show Steps p.tables e below (T1.setTop (mkF m 14 #[.val (.ref o0), .val (.int (1:Int32))] [(.int (1:Int32)), (.int (1:Int32)), (.ref be)])) _
    refine XS.isub X1.here hx rfl (hb hby d4_14) rfl ?_
    rw [show ((1:Int32) - (1:Int32)) = (0:Int32) from by decide]
    show Steps p.tables e below (T1.setTop (mkF m 15 #[.val (.ref o0), .val (.int (1:Int32))] [(.int (0:Int32)), (.ref be)])) _
    refine X1.iaload hx (j := (0:Int32)) (v := (.int u0)) (by rw [e1]; exact Ar2.1) (State.isArrayOf_alike hZ.alike Ar2.2.1) Ar2.2.2 hin2 (H2.at hin2 rfl) (g := (mkF m 15 #[.val (.ref o0), .val (.int (1:Int32))] [(.int (0:Int32)), (.ref be)])) rfl rfl (hb hby d4_15) _ ?_
    show Steps p.tables e below (T1.setTop (mkF m 16 #[.val (.ref o0), .val (.int (1:Int32))] [(.int u0)])) _
    exact retI X1 hx Bd.returns (hb hby d4_16) hr
  · show rm4_1Q Z o0 u0 u1 u2 h0 n0 _ T1.heap _
    rw [e1]
    exact ⟨rfl, N0, rfl⟩
theorem ef_rm4_2 (m : MethodId) (o0 : Nat) : entryFrame m #[(.ref o0), (.int (2:Int32))] 2 = mkF m 0 #[.val (.ref o0), .val (.int (2:Int32))] [] := by first | (simp [entryFrame, mkF, argsToLocals, Value.category]; done) | rfl
def rm4_2Q (Z : State) (o0 : Nat) (u0 u1 u2 : Int32) (h0 : Heap) (n0 : Nat) (v : Option Value) (h : Heap) (L : List Loc) : Prop := v = some (.int u1) ∧ Fr n0 L ∧ h = h0
set_option maxRecDepth 65536 in
set_option maxHeartbeats 40000000 in
theorem rm4_2 (l : Launch) (Z : State) (aw : Array Value) (hw : ∀ d ∈ tables_1, d.before aw Z = true) (ws : List Jvm.Cond) (o0 : Nat) (be : Nat) (ke : ClassId) (u0 u1 u2 : Int32) (h0 : Heap) (n0 : Nat) (Z0 : n0 ≤ h0.size) (F_e : Fld Z h0 o0 "com/example/tavola/tavola/profile/RowBatch" "keyEnds" "[I" (.ref be)) (V_be : Arv Z h0 be ke .int (1024:Int32) [(.int u0), (.int u1), (.int u2)] (.int (0:Int32))) :
    MetFree l (⟨"com/example/tavola/tavola/profile/RowBatch", "keyStart", "(I)I"⟩ : MethodName) (head1 (Jvm.Cond.code (⟨"com/example/tavola/tavola/profile/RowBatch", "keyStart", "(I)I"⟩ : MethodName) prog_92_method_8_code 2 (some .int) :: ws) ({ frames := 0, cells := 0, slots := 0, locals := 0 } : Room)) (fun a U => a = #[(.ref o0), (.int (2:Int32))] ∧ Z.Warmed39 U.vm ∧ U.heap = h0) (fun _ _ _ _ _ => True) (fun _ U o U' => ∃ v L, o = .returned v ∧ rm4_2Q Z o0 u0 u1 u2 h0 n0 v U'.heap L ∧ FrameEnd U o U' L ({ frames := 0, cells := 0, slots := 0, locals := 0 } : Room).cells ({ frames := 0, cells := 0, slots := 0, locals := 0 } : Room).slots) := by
  refine MetFree.of_bodySF (plainFor_of_name pn_4) hisR ?_
  intro p e s m args below meth c s₁ Bd hml0 hP hK
  obtain ⟨rfl, hZ, hh⟩ := hP
  have hx := Bd.exec
  have hby := Bd.bytes
  have hml : c.maxLocals = 2 := hml0
  have hown : s.vm.findClass "com/example/tavola/tavola/profile/RowBatch" = some m.cls := findClass_of_methodNamed Bd.named
  have hnm := (name_of_methodNamed Bd.named Bd.method).1
  have X0 : Stand p l e ({ frames := 0, cells := 0, slots := 0, locals := 0 } : Room) s m #[(.ref o0), (.int (2:Int32))] below meth c s₁ [] 0 0 := Stand.of_body Bd
  have e0 : s₁.heap = h0 := by rw [← hh, Bd.state]; rfl
  have N0 := Fr.nil n0
  have pre0 : ∀ t, Steps p.tables e below (s₁.setTop (mkF m 0 #[.val (.ref o0), .val (.int (2:Int32))] [])) t → Steps p.tables e below (s₁.setTop (entryFrame m #[(.ref o0), (.int (2:Int32))] 2)) t := fun t k => castTop (ef_rm4_2 m o0) k
  obtain ⟨T1, X1, e1, st1⟩ := getF X0 hx hZ hown (host := "") (Or.inl (hw _ (oG (i := 36) rfl))) Via.refl e0 F_e (g := (mkF m 9 #[.val (.ref o0), .val (.int (2:Int32))] [(.ref o0)])) rfl rfl (hb hby d4_9)
  obtain ⟨cl2, Ar2, q2, S2, N2', H2, G2⟩ := id V_be
  have hin2 : ¬ ((1:Int32) < 0 ∨ cl2.slots.size ≤ ((1:Int32)).toNatClampNeg) := inb_of S2 ⟨by decide, by decide⟩
  obtain ⟨fs, hr, hrun, hended, hW, hsame⟩ := X1.leave (v := some (.int u1)) (fun h => by rw [Bd.returns] at h; cases h)
  refine ⟨_, _, pre0 _ ?_, hrun, hended, _, _, rfl, ?_, ⟨_, rfl⟩, hW, hsame.mono (by decide) (by decide)⟩
  · show Steps p.tables e below (s₁.setTop (mkF m 0 #[.val (.ref o0), .val (.int (2:Int32))] [])) _
    refine XS.iloadN X0.here hx rfl (hb hby d4_0) rfl ?_
    refine XS.ifYes X0.here hx rfl (pc0 := 1) (pc' := 8) rfl (hb hby d4_1) rfl ((if0 _ _).trans (feq ((by decide) : ¬ ((2:Int32) = (0:Int32)))).2) (by decide) (by decide) ?_
    refine XS.aloadN X0.here hx rfl (hb hby d4_8) rfl rfl ?_
    show Steps p.tables e below (s₁.setTop (mkF m 9 #[.val (.ref o0), .val (.int (2:Int32))] [(.ref o0)])) _
    refine st1 _ ?_
    show Steps p.tables e below (T1.setTop (mkF m 12 #[.val (.ref o0), .val (.int (2:Int32))] [(.ref be)])) _
    refine XS.iloadN X1.here hx rfl (hb hby d4_12) rfl ?_
    refine XS.iconst X1.here hx rfl (hb hby d4_13) ?_
    show Steps p.tables e below (T1.setTop (mkF m 14 #[.val (.ref o0), .val (.int (2:Int32))] [(.int (1:Int32)), (.int (2:Int32)), (.ref be)])) _
    refine XS.isub X1.here hx rfl (hb hby d4_14) rfl ?_
    rw [show ((2:Int32) - (1:Int32)) = (1:Int32) from by decide]
    show Steps p.tables e below (T1.setTop (mkF m 15 #[.val (.ref o0), .val (.int (2:Int32))] [(.int (1:Int32)), (.ref be)])) _
    refine X1.iaload hx (j := (1:Int32)) (v := (.int u1)) (by rw [e1]; exact Ar2.1) (State.isArrayOf_alike hZ.alike Ar2.2.1) Ar2.2.2 hin2 (H2.at hin2 rfl) (g := (mkF m 15 #[.val (.ref o0), .val (.int (2:Int32))] [(.int (1:Int32)), (.ref be)])) rfl rfl (hb hby d4_15) _ ?_
    show Steps p.tables e below (T1.setTop (mkF m 16 #[.val (.ref o0), .val (.int (2:Int32))] [(.int u1)])) _
    exact retI X1 hx Bd.returns (hb hby d4_16) hr
  · show rm4_2Q Z o0 u0 u1 u2 h0 n0 _ T1.heap _
    rw [e1]
    exact ⟨rfl, N0, rfl⟩
theorem ef_rm4_3 (m : MethodId) (o0 : Nat) : entryFrame m #[(.ref o0), (.int (3:Int32))] 2 = mkF m 0 #[.val (.ref o0), .val (.int (3:Int32))] [] := by first | (simp [entryFrame, mkF, argsToLocals, Value.category]; done) | rfl
def rm4_3Q (Z : State) (o0 : Nat) (u0 u1 u2 : Int32) (h0 : Heap) (n0 : Nat) (v : Option Value) (h : Heap) (L : List Loc) : Prop := v = some (.int u2) ∧ Fr n0 L ∧ h = h0
set_option maxRecDepth 65536 in
set_option maxHeartbeats 40000000 in
theorem rm4_3 (l : Launch) (Z : State) (aw : Array Value) (hw : ∀ d ∈ tables_1, d.before aw Z = true) (ws : List Jvm.Cond) (o0 : Nat) (be : Nat) (ke : ClassId) (u0 u1 u2 : Int32) (h0 : Heap) (n0 : Nat) (Z0 : n0 ≤ h0.size) (F_e : Fld Z h0 o0 "com/example/tavola/tavola/profile/RowBatch" "keyEnds" "[I" (.ref be)) (V_be : Arv Z h0 be ke .int (1024:Int32) [(.int u0), (.int u1), (.int u2)] (.int (0:Int32))) :
    MetFree l (⟨"com/example/tavola/tavola/profile/RowBatch", "keyStart", "(I)I"⟩ : MethodName) (head1 (Jvm.Cond.code (⟨"com/example/tavola/tavola/profile/RowBatch", "keyStart", "(I)I"⟩ : MethodName) prog_92_method_8_code 2 (some .int) :: ws) ({ frames := 0, cells := 0, slots := 0, locals := 0 } : Room)) (fun a U => a = #[(.ref o0), (.int (3:Int32))] ∧ Z.Warmed39 U.vm ∧ U.heap = h0) (fun _ _ _ _ _ => True) (fun _ U o U' => ∃ v L, o = .returned v ∧ rm4_3Q Z o0 u0 u1 u2 h0 n0 v U'.heap L ∧ FrameEnd U o U' L ({ frames := 0, cells := 0, slots := 0, locals := 0 } : Room).cells ({ frames := 0, cells := 0, slots := 0, locals := 0 } : Room).slots) := by
  refine MetFree.of_bodySF (plainFor_of_name pn_4) hisR ?_
  intro p e s m args below meth c s₁ Bd hml0 hP hK
  obtain ⟨rfl, hZ, hh⟩ := hP
  have hx := Bd.exec
  have hby := Bd.bytes
  have hml : c.maxLocals = 2 := hml0
  have hown : s.vm.findClass "com/example/tavola/tavola/profile/RowBatch" = some m.cls := findClass_of_methodNamed Bd.named
  have hnm := (name_of_methodNamed Bd.named Bd.method).1
  have X0 : Stand p l e ({ frames := 0, cells := 0, slots := 0, locals := 0 } : Room) s m #[(.ref o0), (.int (3:Int32))] below meth c s₁ [] 0 0 := Stand.of_body Bd
  have e0 : s₁.heap = h0 := by rw [← hh, Bd.state]; rfl
  have N0 := Fr.nil n0
  have pre0 : ∀ t, Steps p.tables e below (s₁.setTop (mkF m 0 #[.val (.ref o0), .val (.int (3:Int32))] [])) t → Steps p.tables e below (s₁.setTop (entryFrame m #[(.ref o0), (.int (3:Int32))] 2)) t := fun t k => castTop (ef_rm4_3 m o0) k
  obtain ⟨T1, X1, e1, st1⟩ := getF X0 hx hZ hown (host := "") (Or.inl (hw _ (oG (i := 36) rfl))) Via.refl e0 F_e (g := (mkF m 9 #[.val (.ref o0), .val (.int (3:Int32))] [(.ref o0)])) rfl rfl (hb hby d4_9)
  obtain ⟨cl2, Ar2, q2, S2, N2', H2, G2⟩ := id V_be
  have hin2 : ¬ ((2:Int32) < 0 ∨ cl2.slots.size ≤ ((2:Int32)).toNatClampNeg) := inb_of S2 ⟨by decide, by decide⟩
  obtain ⟨fs, hr, hrun, hended, hW, hsame⟩ := X1.leave (v := some (.int u2)) (fun h => by rw [Bd.returns] at h; cases h)
  refine ⟨_, _, pre0 _ ?_, hrun, hended, _, _, rfl, ?_, ⟨_, rfl⟩, hW, hsame.mono (by decide) (by decide)⟩
  · show Steps p.tables e below (s₁.setTop (mkF m 0 #[.val (.ref o0), .val (.int (3:Int32))] [])) _
    refine XS.iloadN X0.here hx rfl (hb hby d4_0) rfl ?_
    refine XS.ifYes X0.here hx rfl (pc0 := 1) (pc' := 8) rfl (hb hby d4_1) rfl ((if0 _ _).trans (feq ((by decide) : ¬ ((3:Int32) = (0:Int32)))).2) (by decide) (by decide) ?_
    refine XS.aloadN X0.here hx rfl (hb hby d4_8) rfl rfl ?_
    show Steps p.tables e below (s₁.setTop (mkF m 9 #[.val (.ref o0), .val (.int (3:Int32))] [(.ref o0)])) _
    refine st1 _ ?_
    show Steps p.tables e below (T1.setTop (mkF m 12 #[.val (.ref o0), .val (.int (3:Int32))] [(.ref be)])) _
    refine XS.iloadN X1.here hx rfl (hb hby d4_12) rfl ?_
    refine XS.iconst X1.here hx rfl (hb hby d4_13) ?_
    show Steps p.tables e below (T1.setTop (mkF m 14 #[.val (.ref o0), .val (.int (3:Int32))] [(.int (1:Int32)), (.int (3:Int32)), (.ref be)])) _
    refine XS.isub X1.here hx rfl (hb hby d4_14) rfl ?_
    rw [show ((3:Int32) - (1:Int32)) = (2:Int32) from by decide]
    show Steps p.tables e below (T1.setTop (mkF m 15 #[.val (.ref o0), .val (.int (3:Int32))] [(.int (2:Int32)), (.ref be)])) _
    refine X1.iaload hx (j := (2:Int32)) (v := (.int u2)) (by rw [e1]; exact Ar2.1) (State.isArrayOf_alike hZ.alike Ar2.2.1) Ar2.2.2 hin2 (H2.at hin2 rfl) (g := (mkF m 15 #[.val (.ref o0), .val (.int (3:Int32))] [(.int (2:Int32)), (.ref be)])) rfl rfl (hb hby d4_15) _ ?_
    show Steps p.tables e below (T1.setTop (mkF m 16 #[.val (.ref o0), .val (.int (3:Int32))] [(.int u2)])) _
    exact retI X1 hx Bd.returns (hb hby d4_16) hr
  · show rm4_3Q Z o0 u0 u1 u2 h0 n0 _ T1.heap _
    rw [e1]
    exact ⟨rfl, N0, rfl⟩
theorem d5_0 : decode method_2_code 0 = .ok (.iload_n 0, 1) := by decide +kernel
theorem d5_1 : decode method_2_code 1 = .ok (.ifCond .ne 7, 3) := by decide +kernel
theorem d5_4 : decode method_2_code 4 = .ok (.aload_n 1, 1) := by decide +kernel
theorem d5_5 : decode method_2_code 5 = .ok (.goto 23, 3) := by decide +kernel
theorem d5_8 : decode method_2_code 8 = .ok (.iload_n 0, 1) := by decide +kernel
theorem d5_9 : decode method_2_code 9 = .ok (.iconst 1, 1) := by decide +kernel
theorem d5_10 : decode method_2_code 10 = .ok (.if_icmp .ne 7, 3) := by decide +kernel
theorem d5_13 : decode method_2_code 13 = .ok (.aload_n 2, 1) := by decide +kernel
theorem d5_14 : decode method_2_code 14 = .ok (.goto 14, 3) := by decide +kernel
theorem d5_17 : decode method_2_code 17 = .ok (.iload_n 0, 1) := by decide +kernel
theorem d5_18 : decode method_2_code 18 = .ok (.iconst 2, 1) := by decide +kernel
theorem d5_19 : decode method_2_code 19 = .ok (.if_icmp .ne 7, 3) := by decide +kernel
theorem d5_22 : decode method_2_code 22 = .ok (.aload_n 3, 1) := by decide +kernel
theorem d5_23 : decode method_2_code 23 = .ok (.goto 5, 3) := by decide +kernel
theorem d5_26 : decode method_2_code 26 = .ok (.aload 4, 2) := by decide +kernel
theorem d5_28 : decode method_2_code 28 = .ok (.areturn, 1) := by decide +kernel
theorem pn_5 : plainName "com/example/tavola/tavola/profile/RowBatchKeyStartPinLaw" = true := by first | (simp [plainName, overriddenIn]; done) | decide +kernel
theorem ef_rm5 (m : MethodId) (p0 : Int32) (o1 : Nat) (o2 : Nat) (o3 : Nat) (o4 : Nat) : entryFrame m #[(.int p0), (.ref o1), (.ref o2), (.ref o3), (.ref o4)] 5 = mkF m 0 #[.val (.int p0), .val (.ref o1), .val (.ref o2), .val (.ref o3), .val (.ref o4)] [] := by first | (simp [entryFrame, mkF, argsToLocals, Value.category]; done) | rfl
def rm5Q (Z : State) (p0 : Int32) (o1 o2 o3 o4 : Nat) (h0 : Heap) (n0 : Nat) (v : Option Value) (h : Heap) (L : List Loc) : Prop := v = some (.ref (own_pick p0 o1 o2 o3 o4)) ∧ Fr n0 L ∧ h = h0
set_option maxRecDepth 65536 in
set_option maxHeartbeats 40000000 in
theorem rm5 (l : Launch) (Z : State) (aw : Array Value) (hw : ∀ d ∈ tables_1, d.before aw Z = true) (ws : List Jvm.Cond) (p0 : Int32) (o1 : Nat) (o2 : Nat) (o3 : Nat) (o4 : Nat) (h0 : Heap) (n0 : Nat) (Z0 : n0 ≤ h0.size) :
    MetFree l (⟨"com/example/tavola/tavola/profile/RowBatchKeyStartPinLaw", "pick", "(I[I[I[I[I)[I"⟩ : MethodName) (head1 (Jvm.Cond.code (⟨"com/example/tavola/tavola/profile/RowBatchKeyStartPinLaw", "pick", "(I[I[I[I[I)[I"⟩ : MethodName) method_2_code 5 (some (.array .int)) :: ws) ({ frames := 0, cells := 0, slots := 0, locals := 0 } : Room)) (fun a U => a = #[(.int p0), (.ref o1), (.ref o2), (.ref o3), (.ref o4)] ∧ Z.Warmed39 U.vm ∧ U.heap = h0) (fun _ _ _ _ _ => True) (fun _ U o U' => ∃ v L, o = .returned v ∧ rm5Q Z p0 o1 o2 o3 o4 h0 n0 v U'.heap L ∧ FrameEnd U o U' L ({ frames := 0, cells := 0, slots := 0, locals := 0 } : Room).cells ({ frames := 0, cells := 0, slots := 0, locals := 0 } : Room).slots) := by
  refine MetFree.of_bodySF (plainFor_of_name pn_5) hisR ?_
  intro p e s m args below meth c s₁ Bd hml0 hP hK
  obtain ⟨rfl, hZ, hh⟩ := hP
  have hx := Bd.exec
  have hby := Bd.bytes
  have hml : c.maxLocals = 5 := hml0
  have hown : s.vm.findClass "com/example/tavola/tavola/profile/RowBatchKeyStartPinLaw" = some m.cls := findClass_of_methodNamed Bd.named
  have hnm := (name_of_methodNamed Bd.named Bd.method).1
  have X0 : Stand p l e ({ frames := 0, cells := 0, slots := 0, locals := 0 } : Room) s m #[(.int p0), (.ref o1), (.ref o2), (.ref o3), (.ref o4)] below meth c s₁ [] 0 0 := Stand.of_body Bd
  have e0 : s₁.heap = h0 := by rw [← hh, Bd.state]; rfl
  have N0 := Fr.nil n0
  have pre0 : ∀ t, Steps p.tables e below (s₁.setTop (mkF m 0 #[.val (.int p0), .val (.ref o1), .val (.ref o2), .val (.ref o3), .val (.ref o4)] [])) t → Steps p.tables e below (s₁.setTop (entryFrame m #[(.int p0), (.ref o1), (.ref o2), (.ref o3), (.ref o4)] 5)) t := fun t k => castTop (ef_rm5 m p0 o1 o2 o3 o4) k
  have pre1 : ∀ t, Steps p.tables e below (s₁.setTop (mkF m 1 #[.val (.int p0), .val (.ref o1), .val (.ref o2), .val (.ref o3), .val (.ref o4)] [(.int p0)])) t → Steps p.tables e below (s₁.setTop (entryFrame m #[(.int p0), (.ref o1), (.ref o2), (.ref o3), (.ref o4)] 5)) t := fun t k => pre0 t (by
    show Steps p.tables e below (s₁.setTop (mkF m 0 #[.val (.int p0), .val (.ref o1), .val (.ref o2), .val (.ref o3), .val (.ref o4)] [])) _
    refine XS.iloadN X0.here hx rfl (hb hby d5_0) rfl ?_
    exact k)
  by_cases hc1_2 : p0 = (0:Int32)
  · obtain ⟨fs, hr, hrun, hended, hW, hsame⟩ := X0.leave (v := some (.ref o1)) (fun h => by rw [Bd.returns] at h; cases h)
    refine ⟨_, _, pre1 _ ?_, hrun, hended, _, _, rfl, ?_, ⟨_, rfl⟩, hW, hsame.mono (by decide) (by decide)⟩
    · show Steps p.tables e below (s₁.setTop (mkF m 1 #[.val (.int p0), .val (.ref o1), .val (.ref o2), .val (.ref o3), .val (.ref o4)] [(.int p0)])) _
      refine XS.ifNo X0.here hx rfl (hb hby d5_1) rfl ((if0 _ _).trans (teq hc1_2).2) ?_
      refine XS.aloadN X0.here hx rfl (hb hby d5_4) rfl rfl ?_
      refine XS.goto X0.here hx rfl (pc0 := 5) (pc' := 28) rfl (hb hby d5_5) (by decide) (by decide) ?_
      show Steps p.tables e below (s₁.setTop (mkF m 28 #[.val (.int p0), .val (.ref o1), .val (.ref o2), .val (.ref o3), .val (.ref o4)] [(.ref o1)])) _
      jvm_step X0.here [X0.here.top, hx, (hb hby d5_28), X0.method', Bd.returns, Value.isRef, FieldType.isReference]
      first | (intro acts; rw [hr _ acts rfl rfl rfl]) | rw [hr _ _ rfl rfl rfl]
      exact Steps.refl _
    · show rm5Q Z p0 o1 o2 o3 o4 h0 n0 _ s₁.heap _
      rw [e0]
      exact ⟨by rw [own_pick, if_pos hc1_2], N0, rfl⟩
  · have pre3 : ∀ t, Steps p.tables e below (s₁.setTop (mkF m 10 #[.val (.int p0), .val (.ref o1), .val (.ref o2), .val (.ref o3), .val (.ref o4)] [(.int (1:Int32)), (.int p0)])) t → Steps p.tables e below (s₁.setTop (entryFrame m #[(.int p0), (.ref o1), (.ref o2), (.ref o3), (.ref o4)] 5)) t := fun t k => pre1 t (by
      show Steps p.tables e below (s₁.setTop (mkF m 1 #[.val (.int p0), .val (.ref o1), .val (.ref o2), .val (.ref o3), .val (.ref o4)] [(.int p0)])) _
      refine XS.ifYes X0.here hx rfl (pc0 := 1) (pc' := 8) rfl (hb hby d5_1) rfl ((if0 _ _).trans (feq hc1_2).2) (by decide) (by decide) ?_
      refine XS.iloadN X0.here hx rfl (hb hby d5_8) rfl ?_
      refine XS.iconst X0.here hx rfl (hb hby d5_9) ?_
      exact k)
    by_cases hc10_4 : p0 = (1:Int32)
    · obtain ⟨fs, hr, hrun, hended, hW, hsame⟩ := X0.leave (v := some (.ref o2)) (fun h => by rw [Bd.returns] at h; cases h)
      refine ⟨_, _, pre3 _ ?_, hrun, hended, _, _, rfl, ?_, ⟨_, rfl⟩, hW, hsame.mono (by decide) (by decide)⟩
      · show Steps p.tables e below (s₁.setTop (mkF m 10 #[.val (.int p0), .val (.ref o1), .val (.ref o2), .val (.ref o3), .val (.ref o4)] [(.int (1:Int32)), (.int p0)])) _
        refine XS.icmpNo X0.here hx rfl (hb hby d5_10) rfl (teq hc10_4).2 ?_
        refine XS.aloadN X0.here hx rfl (hb hby d5_13) rfl rfl ?_
        refine XS.goto X0.here hx rfl (pc0 := 14) (pc' := 28) rfl (hb hby d5_14) (by decide) (by decide) ?_
        show Steps p.tables e below (s₁.setTop (mkF m 28 #[.val (.int p0), .val (.ref o1), .val (.ref o2), .val (.ref o3), .val (.ref o4)] [(.ref o2)])) _
        jvm_step X0.here [X0.here.top, hx, (hb hby d5_28), X0.method', Bd.returns, Value.isRef, FieldType.isReference]
        first | (intro acts; rw [hr _ acts rfl rfl rfl]) | rw [hr _ _ rfl rfl rfl]
        exact Steps.refl _
      · show rm5Q Z p0 o1 o2 o3 o4 h0 n0 _ s₁.heap _
        rw [e0]
        exact ⟨by rw [own_pick, if_neg hc1_2, if_pos hc10_4], N0, rfl⟩
    · have pre5 : ∀ t, Steps p.tables e below (s₁.setTop (mkF m 19 #[.val (.int p0), .val (.ref o1), .val (.ref o2), .val (.ref o3), .val (.ref o4)] [(.int (2:Int32)), (.int p0)])) t → Steps p.tables e below (s₁.setTop (entryFrame m #[(.int p0), (.ref o1), (.ref o2), (.ref o3), (.ref o4)] 5)) t := fun t k => pre3 t (by
        show Steps p.tables e below (s₁.setTop (mkF m 10 #[.val (.int p0), .val (.ref o1), .val (.ref o2), .val (.ref o3), .val (.ref o4)] [(.int (1:Int32)), (.int p0)])) _
        refine XS.icmpYes X0.here hx rfl (pc0 := 10) (pc' := 17) rfl (hb hby d5_10) rfl (feq hc10_4).2 (by decide) (by decide) ?_
        refine XS.iloadN X0.here hx rfl (hb hby d5_17) rfl ?_
        refine XS.iconst X0.here hx rfl (hb hby d5_18) ?_
        exact k)
      by_cases hc19_6 : p0 = (2:Int32)
      · obtain ⟨fs, hr, hrun, hended, hW, hsame⟩ := X0.leave (v := some (.ref o3)) (fun h => by rw [Bd.returns] at h; cases h)
        refine ⟨_, _, pre5 _ ?_, hrun, hended, _, _, rfl, ?_, ⟨_, rfl⟩, hW, hsame.mono (by decide) (by decide)⟩
        · show Steps p.tables e below (s₁.setTop (mkF m 19 #[.val (.int p0), .val (.ref o1), .val (.ref o2), .val (.ref o3), .val (.ref o4)] [(.int (2:Int32)), (.int p0)])) _
          refine XS.icmpNo X0.here hx rfl (hb hby d5_19) rfl (teq hc19_6).2 ?_
          refine XS.aloadN X0.here hx rfl (hb hby d5_22) rfl rfl ?_
          refine XS.goto X0.here hx rfl (pc0 := 23) (pc' := 28) rfl (hb hby d5_23) (by decide) (by decide) ?_
          show Steps p.tables e below (s₁.setTop (mkF m 28 #[.val (.int p0), .val (.ref o1), .val (.ref o2), .val (.ref o3), .val (.ref o4)] [(.ref o3)])) _
          jvm_step X0.here [X0.here.top, hx, (hb hby d5_28), X0.method', Bd.returns, Value.isRef, FieldType.isReference]
          first | (intro acts; rw [hr _ acts rfl rfl rfl]) | rw [hr _ _ rfl rfl rfl]
          exact Steps.refl _
        · show rm5Q Z p0 o1 o2 o3 o4 h0 n0 _ s₁.heap _
          rw [e0]
          exact ⟨by rw [own_pick, if_neg hc1_2, if_neg hc10_4, if_pos hc19_6], N0, rfl⟩
      · obtain ⟨fs, hr, hrun, hended, hW, hsame⟩ := X0.leave (v := some (.ref o4)) (fun h => by rw [Bd.returns] at h; cases h)
        refine ⟨_, _, pre5 _ ?_, hrun, hended, _, _, rfl, ?_, ⟨_, rfl⟩, hW, hsame.mono (by decide) (by decide)⟩
        · show Steps p.tables e below (s₁.setTop (mkF m 19 #[.val (.int p0), .val (.ref o1), .val (.ref o2), .val (.ref o3), .val (.ref o4)] [(.int (2:Int32)), (.int p0)])) _
          refine XS.icmpYes X0.here hx rfl (pc0 := 19) (pc' := 26) rfl (hb hby d5_19) rfl (feq hc19_6).2 (by decide) (by decide) ?_
          refine XS.aload X0.here hx rfl (hb hby d5_26) rfl rfl ?_
          show Steps p.tables e below (s₁.setTop (mkF m 28 #[.val (.int p0), .val (.ref o1), .val (.ref o2), .val (.ref o3), .val (.ref o4)] [(.ref o4)])) _
          jvm_step X0.here [X0.here.top, hx, (hb hby d5_28), X0.method', Bd.returns, Value.isRef, FieldType.isReference]
          first | (intro acts; rw [hr _ acts rfl rfl rfl]) | rw [hr _ _ rfl rfl rfl]
          exact Steps.refl _
        · show rm5Q Z p0 o1 o2 o3 o4 h0 n0 _ s₁.heap _
          rw [e0]
          exact ⟨by rw [own_pick, if_neg hc1_2, if_neg hc10_4, if_neg hc19_6], N0, rfl⟩
theorem d1_0 : decode prog_81_method_1_code 0 = .ok (.aload_n 0, 1) := by decide +kernel
theorem d1_1 : decode prog_81_method_1_code 1 = .ok (.invokespecial 3, 3) := by decide +kernel
theorem d1_4 : decode prog_81_method_1_code 4 = .ok (.aload_n 0, 1) := by decide +kernel
theorem d1_5 : decode prog_81_method_1_code 5 = .ok (.ldc 9, 2) := by decide +kernel
theorem d1_7 : decode prog_81_method_1_code 7 = .ok (.newarray .byte, 2) := by decide +kernel
theorem d1_9 : decode prog_81_method_1_code 9 = .ok (.putfield 10, 3) := by decide +kernel
theorem d1_12 : decode prog_81_method_1_code 12 = .ok (.aload_n 0, 1) := by decide +kernel
theorem d1_13 : decode prog_81_method_1_code 13 = .ok (.lconst 1, 1) := by decide +kernel
theorem d1_14 : decode prog_81_method_1_code 14 = .ok (.putfield 14, 3) := by decide +kernel
theorem d1_17 : decode prog_81_method_1_code 17 = .ok (.aload_n 0, 1) := by decide +kernel
theorem d1_18 : decode prog_81_method_1_code 18 = .ok (.sipush 256, 3) := by decide +kernel
theorem d1_21 : decode prog_81_method_1_code 21 = .ok (.newarray .byte, 2) := by decide +kernel
theorem d1_23 : decode prog_81_method_1_code 23 = .ok (.putfield 18, 3) := by decide +kernel
theorem d1_26 : decode prog_81_method_1_code 26 = .ok (.aload_n 0, 1) := by decide +kernel
theorem d1_27 : decode prog_81_method_1_code 27 = .ok (.bipush 16, 2) := by decide +kernel
theorem d1_29 : decode prog_81_method_1_code 29 = .ok (.newarray .int, 2) := by decide +kernel
theorem d1_31 : decode prog_81_method_1_code 31 = .ok (.putfield 21, 3) := by decide +kernel
theorem d1_34 : decode prog_81_method_1_code 34 = .ok (.aload_n 0, 1) := by decide +kernel
theorem d1_35 : decode prog_81_method_1_code 35 = .ok (.bipush 16, 2) := by decide +kernel
theorem d1_37 : decode prog_81_method_1_code 37 = .ok (.newarray .boolean, 2) := by decide +kernel
theorem d1_39 : decode prog_81_method_1_code 39 = .ok (.putfield 25, 3) := by decide +kernel
theorem d1_42 : decode prog_81_method_1_code 42 = .ok (.aload_n 0, 1) := by decide +kernel
theorem d1_43 : decode prog_81_method_1_code 43 = .ok (.aload_n 1, 1) := by decide +kernel
theorem d1_44 : decode prog_81_method_1_code 44 = .ok (.putfield 29, 3) := by decide +kernel
theorem d1_47 : decode prog_81_method_1_code 47 = .ok (.return_, 1) := by decide +kernel
theorem pn_1 : plainName "com/example/tavola/tavola/profile/CsvReader" = true := by first | (simp [plainName, overriddenIn]; done) | decide +kernel
theorem ef_rm1 (m : MethodId) (o0 : Nat) : entryFrame m #[(.ref o0), .null] 2 = mkF m 0 #[.val (.ref o0), .val .null] [] := by first | (simp [entryFrame, mkF, argsToLocals, Value.category]; done) | rfl
def rm1Q (Z : State) (o0 : Nat) (h0 : Heap) (n0 : Nat) (v : Option Value) (h : Heap) (L : List Loc) : Prop := v = none ∧ Fr n0 L ∧ Keep h0 h [o0] ∧ ∃ (br bn : Nat) (kr kn : ClassId), h0.size ≤ br ∧ br < bn ∧ Fld Z h o0 "com/example/tavola/tavola/profile/CsvReader" "record" "[B" (.ref br) ∧ Fld Z h o0 "com/example/tavola/tavola/profile/CsvReader" "ends" "[I" (.ref bn) ∧ own_Arf Z h br kr .byte (256:Int32) (.int (0:Int32)) ∧ Arv Z h bn kn .int (16:Int32) [(.int (0:Int32)), (.int (0:Int32)), (.int (0:Int32)), (.int (0:Int32)), (.int (0:Int32)), (.int (0:Int32)), (.int (0:Int32)), (.int (0:Int32)), (.int (0:Int32)), (.int (0:Int32)), (.int (0:Int32)), (.int (0:Int32)), (.int (0:Int32)), (.int (0:Int32)), (.int (0:Int32)), (.int (0:Int32))] (.int (0:Int32))
set_option maxRecDepth 65536 in
set_option maxHeartbeats 40000000 in
theorem rm1 (l : Launch) (Z : State) (aw : Array Value) (hw : ∀ d ∈ tables_1, d.before aw Z = true) (ws : List Jvm.Cond) (o0 : Nat) (h0 : Heap) (n0 : Nat) (Z0 : n0 ≤ h0.size) (E_o0 : Exa Z h0 o0 "com/example/tavola/tavola/profile/CsvReader") (F_buffer : Fld Z h0 o0 "com/example/tavola/tavola/profile/CsvReader" "buffer" "[B" .null) (F_currentLine : Fld Z h0 o0 "com/example/tavola/tavola/profile/CsvReader" "currentLine" "J" (.long (0:Int64))) (F_record : Fld Z h0 o0 "com/example/tavola/tavola/profile/CsvReader" "record" "[B" .null) (F_ends : Fld Z h0 o0 "com/example/tavola/tavola/profile/CsvReader" "ends" "[I" .null) (F_quoted : Fld Z h0 o0 "com/example/tavola/tavola/profile/CsvReader" "quoted" "[Z" .null) (F_in : Fld Z h0 o0 "com/example/tavola/tavola/profile/CsvReader" "in" "Ljava/io/InputStream;" .null) (g_o0 : n0 ≤ o0) :
    MetFree l (⟨"com/example/tavola/tavola/profile/CsvReader", "<init>", "(Ljava/io/InputStream;)V"⟩ : MethodName) (head1 (Jvm.Cond.code (⟨"com/example/tavola/tavola/profile/CsvReader", "<init>", "(Ljava/io/InputStream;)V"⟩ : MethodName) prog_81_method_1_code 2 none :: ws) ({ frames := 1, cells := 4, slots := 65824, locals := 12 } : Room)) (fun a U => a = #[(.ref o0), .null] ∧ Z.Warmed39 U.vm ∧ U.heap = h0) (fun _ _ _ _ _ => True) (fun _ U o U' => ∃ v L, o = .returned v ∧ rm1Q Z o0 h0 n0 v U'.heap L ∧ FrameEnd U o U' L ({ frames := 1, cells := 4, slots := 65824, locals := 12 } : Room).cells ({ frames := 1, cells := 4, slots := 65824, locals := 12 } : Room).slots) := by
  refine MetFree.of_bodySF (plainFor_of_name pn_1) hisR ?_
  intro p e s m args below meth c s₁ Bd hml0 hP hK
  obtain ⟨rfl, hZ, hh⟩ := hP
  have hx := Bd.exec
  have hby := Bd.bytes
  have hml : c.maxLocals = 2 := hml0
  have hown : s.vm.findClass "com/example/tavola/tavola/profile/CsvReader" = some m.cls := findClass_of_methodNamed Bd.named
  have hnm := (name_of_methodNamed Bd.named Bd.method).1
  have X0 : Stand p l e ({ frames := 1, cells := 4, slots := 65824, locals := 12 } : Room) s m #[(.ref o0), .null] below meth c s₁ [] 0 0 := Stand.of_body Bd
  have e0 : s₁.heap = h0 := by rw [← hh, Bd.state]; rfl
  have N0 := Fr.nil n0
  have pre0 : ∀ t, Steps p.tables e below (s₁.setTop (mkF m 0 #[.val (.ref o0), .val .null] [])) t → Steps p.tables e below (s₁.setTop (entryFrame m #[(.ref o0), .null] 2)) t := fun t k => castTop (ef_rm1 m o0) k
  obtain ⟨T1, X1, e1, st1⟩ := initO X0 hx hZ hown (hw _ (oG (i := 8) rfl)) (hw _ (oG (i := 9) rfl)) (hw _ (oG (i := 10) rfl)) e0 (g := (mkF m 1 #[.val (.ref o0), .val .null] [(.ref o0)])) rfl (by rw [hml]; rfl) rfl (hb hby d1_1) (by decide) (W := 0) (by show 2 * 0 + _ ≤ _; exact Nat.le_of_eq rfl) (by decide)
  obtain ⟨T2, h2, k2, X2, e2, E2, A2, st2⟩ := newP X1 hx hZ (hw _ (oG (i := 12) rfl)) e1 (g := (mkF m 7 #[.val (.ref o0), .val .null] [(.int (65536:Int32)), (.ref o0)])) rfl (hb hby d1_7) rfl (by decide) (cap := 65536) (by decide) (by decide) (by decide) (by decide)
  obtain ⟨b2, g2⟩ : ∃ z, z = h0.size := ⟨_, rfl⟩
  rw [← g2] at A2 st2
  have g_b2 : n0 ≤ b2 := Nat.le_trans Z0 (Nat.le_of_eq g2.symm)
  have sz_b2 : h0.size ≤ b2 := Nat.le_trans (Keep.refl h0 [o0]).1 (Nat.le_of_eq g2.symm)
  have lt_o0_b2 : o0 < b2 := Nat.lt_of_lt_of_le E_o0.lt (Nat.le_of_eq g2.symm)
  have V_b2 : Arv Z h2 b2 k2 .byte (65536:Int32) [] (.int (0:Int32)) := Arv.new A2 (by decide)
  have Ff_3 : Fld Z h2 o0 "com/example/tavola/tavola/profile/CsvReader" "buffer" "[B" .null := (F_buffer.ext E2)
  have Ee_4 : Exa Z h2 o0 "com/example/tavola/tavola/profile/CsvReader" := (E_o0.ext E2)
  obtain ⟨T5, h5, X5, e5, W5, st5⟩ := putF X2 hx hZ hown (host := "") (Or.inl (hw _ (oG (i := 13) rfl))) Via.refl e2 Ff_3 Ee_4 (Or.inr ⟨(hw _ (oG (i := 14) rfl)), rfl, hnm⟩) (hw _ (oG (i := 3) rfl)) (ty := (.array .byte)) (by decide) rfl rfl (g := (mkF m 9 #[.val (.ref o0), .val .null] [(.ref b2), (.ref o0)])) rfl rfl (hb hby d1_9)
  have Fw5 := Fld.same W5 Ff_3
  have N5 := Fr.snoc X5 N0 g_o0
  have Ff_6 : Fld Z h5 o0 "com/example/tavola/tavola/profile/CsvReader" "currentLine" "J" (.long (0:Int64)) := ((F_currentLine.ext E2).other W5 (Or.inr (slot_ne (Or.inl (hw _ (oG (i := 16) rfl))) (Or.inr (hw _ (oG (i := 14) rfl))) (by decide) (t := .long) (t' := (.array .byte)) (by decide) (by decide))))
  have Ee_7 : Exa Z h5 o0 "com/example/tavola/tavola/profile/CsvReader" := (Ee_4.wr W5)
  obtain ⟨T8, h8, X8, e8, W8, st8⟩ := putF X5 hx hZ hown (host := "") (Or.inl (hw _ (oG (i := 15) rfl))) Via.refl e5 Ff_6 Ee_7 (Or.inl (hw _ (oG (i := 16) rfl))) (hw _ (oG (i := 3) rfl)) (ty := .long) (by decide) rfl rfl (g := (mkF m 14 #[.val (.ref o0), .val .null] [(.long (1:Int64)), (.ref o0)])) rfl rfl (hb hby d1_14)
  have Fw8 := Fld.same W8 Ff_6
  have N8 := Fr.snoc X8 N5 g_o0
  have Kk_9 : Keep h0 h8 [o0] := ((((Keep.refl h0 [o0]).ext E2).wr W5 (Or.inl (oG (i := 0) rfl))).wr W8 (Or.inl (oG (i := 0) rfl)))
  have Zz_10 : n0 ≤ h8.size := (Nat.le_trans (Nat.le_trans (Nat.le_trans Z0 E2.1) (Keep.of_wr W5).1) (Keep.of_wr W8).1)
  have Va_11 : Arv Z h8 b2 k2 .byte (65536:Int32) [] (.int (0:Int32)) := ((V_b2.other W5 (Ne.symm (Nat.ne_of_lt lt_o0_b2))).other W8 (Ne.symm (Nat.ne_of_lt lt_o0_b2)))
  have Ee_12 : Exa Z h8 o0 "com/example/tavola/tavola/profile/CsvReader" := (Ee_7.wr W8)
  obtain ⟨T13, h13, k13, X13, e13, E13, A13, st13⟩ := newP X8 hx hZ (hw _ (oG (i := 12) rfl)) e8 (g := (mkF m 21 #[.val (.ref o0), .val .null] [(.int (256:Int32)), (.ref o0)])) rfl (hb hby d1_21) rfl (by decide) (cap := 256) (by decide) (by decide) (by decide) (by decide)
  obtain ⟨b13, g13⟩ : ∃ z, z = h8.size := ⟨_, rfl⟩
  rw [← g13] at A13 st13
  have g_b13 : n0 ≤ b13 := Nat.le_trans Zz_10 (Nat.le_of_eq g13.symm)
  have sz_b13 : h0.size ≤ b13 := Nat.le_trans Kk_9.1 (Nat.le_of_eq g13.symm)
  have lt_b2_b13 : b2 < b13 := Nat.lt_of_lt_of_le Va_11.lt (Nat.le_of_eq g13.symm)
  have lt_o0_b13 : o0 < b13 := Nat.lt_of_lt_of_le Ee_12.lt (Nat.le_of_eq g13.symm)
  have V_b13 : Arv Z h13 b13 k13 .byte (256:Int32) [] (.int (0:Int32)) := Arv.new A13 (by decide)
  have Ff_14 : Fld Z h13 o0 "com/example/tavola/tavola/profile/CsvReader" "record" "[B" .null := ((((F_record.ext E2).other W5 (Or.inr (slot_ne (Or.inl (hw _ (oG (i := 18) rfl))) (Or.inr (hw _ (oG (i := 14) rfl))) (by decide) (t := (.array .byte)) (t' := (.array .byte)) (by decide) (by decide)))).other W8 (Or.inr (slot_ne (Or.inl (hw _ (oG (i := 18) rfl))) (Or.inl (hw _ (oG (i := 16) rfl))) (by decide) (t := (.array .byte)) (t' := .long) (by decide) (by decide)))).ext E13)
  have Ee_15 : Exa Z h13 o0 "com/example/tavola/tavola/profile/CsvReader" := (Ee_12.ext E13)
  obtain ⟨T16, h16, X16, e16, W16, st16⟩ := putF X13 hx hZ hown (host := "") (Or.inl (hw _ (oG (i := 17) rfl))) Via.refl e13 Ff_14 Ee_15 (Or.inl (hw _ (oG (i := 18) rfl))) (hw _ (oG (i := 3) rfl)) (ty := (.array .byte)) (by decide) rfl rfl (g := (mkF m 23 #[.val (.ref o0), .val .null] [(.ref b13), (.ref o0)])) rfl rfl (hb hby d1_23)
  have Fw16 := Fld.same W16 Ff_14
  have N16 := Fr.snoc X16 N8 g_o0
  have Kk_17 : Keep h0 h16 [o0] := ((Kk_9.ext E13).wr W16 (Or.inl (oG (i := 0) rfl)))
  have Zz_18 : n0 ≤ h16.size := (Nat.le_trans (Nat.le_trans Zz_10 E13.1) (Keep.of_wr W16).1)
  have Va_19 : Arv Z h16 b13 k13 .byte (256:Int32) [] (.int (0:Int32)) := (V_b13.other W16 (Ne.symm (Nat.ne_of_lt lt_o0_b13)))
  have Va_20 : Arv Z h16 b2 k2 .byte (65536:Int32) [] (.int (0:Int32)) := ((Va_11.ext E13).other W16 (Ne.symm (Nat.ne_of_lt lt_o0_b2)))
  have Ee_21 : Exa Z h16 o0 "com/example/tavola/tavola/profile/CsvReader" := (Ee_15.wr W16)
  obtain ⟨T22, h22, k22, X22, e22, E22, A22, st22⟩ := newP X16 hx hZ (hw _ (oG (i := 0) rfl)) e16 (g := (mkF m 29 #[.val (.ref o0), .val .null] [(.int (16:Int32)), (.ref o0)])) rfl (hb hby d1_29) rfl (by decide) (cap := 16) (by decide) (by decide) (by decide) (by decide)
  obtain ⟨b22, g22⟩ : ∃ z, z = h16.size := ⟨_, rfl⟩
  rw [← g22] at A22 st22
  have g_b22 : n0 ≤ b22 := Nat.le_trans Zz_18 (Nat.le_of_eq g22.symm)
  have sz_b22 : h0.size ≤ b22 := Nat.le_trans Kk_17.1 (Nat.le_of_eq g22.symm)
  have lt_b13_b22 : b13 < b22 := Nat.lt_of_lt_of_le Va_19.lt (Nat.le_of_eq g22.symm)
  have lt_b2_b22 : b2 < b22 := Nat.lt_of_lt_of_le Va_20.lt (Nat.le_of_eq g22.symm)
  have lt_o0_b22 : o0 < b22 := Nat.lt_of_lt_of_le Ee_21.lt (Nat.le_of_eq g22.symm)
  have V_b22 : Arv Z h22 b22 k22 .int (16:Int32) [(.int (0:Int32)), (.int (0:Int32)), (.int (0:Int32)), (.int (0:Int32)), (.int (0:Int32)), (.int (0:Int32)), (.int (0:Int32)), (.int (0:Int32)), (.int (0:Int32)), (.int (0:Int32)), (.int (0:Int32)), (.int (0:Int32)), (.int (0:Int32)), (.int (0:Int32)), (.int (0:Int32)), (.int (0:Int32))] (.int (0:Int32)) := (Arv.new A22 (by decide)).pad (pad_rep [] (.int (0:Int32)) 16)
  have Ff_23 : Fld Z h22 o0 "com/example/tavola/tavola/profile/CsvReader" "ends" "[I" .null := ((((((F_ends.ext E2).other W5 (Or.inr (slot_ne (Or.inl (hw _ (oG (i := 20) rfl))) (Or.inr (hw _ (oG (i := 14) rfl))) (by decide) (t := (.array .int)) (t' := (.array .byte)) (by decide) (by decide)))).other W8 (Or.inr (slot_ne (Or.inl (hw _ (oG (i := 20) rfl))) (Or.inl (hw _ (oG (i := 16) rfl))) (by decide) (t := (.array .int)) (t' := .long) (by decide) (by decide)))).ext E13).other W16 (Or.inr (slot_ne (Or.inl (hw _ (oG (i := 20) rfl))) (Or.inl (hw _ (oG (i := 18) rfl))) (by decide) (t := (.array .int)) (t' := (.array .byte)) (by decide) (by decide)))).ext E22)
  have Ee_24 : Exa Z h22 o0 "com/example/tavola/tavola/profile/CsvReader" := (Ee_21.ext E22)
  obtain ⟨T25, h25, X25, e25, W25, st25⟩ := putF X22 hx hZ hown (host := "") (Or.inl (hw _ (oG (i := 19) rfl))) Via.refl e22 Ff_23 Ee_24 (Or.inl (hw _ (oG (i := 20) rfl))) (hw _ (oG (i := 3) rfl)) (ty := (.array .int)) (by decide) rfl rfl (g := (mkF m 31 #[.val (.ref o0), .val .null] [(.ref b22), (.ref o0)])) rfl rfl (hb hby d1_31)
  have Fw25 := Fld.same W25 Ff_23
  have N25 := Fr.snoc X25 N16 g_o0
  have Kk_26 : Keep h0 h25 [o0] := ((Kk_17.ext E22).wr W25 (Or.inl (oG (i := 0) rfl)))
  have Zz_27 : n0 ≤ h25.size := (Nat.le_trans (Nat.le_trans Zz_18 E22.1) (Keep.of_wr W25).1)
  have Va_28 : Arv Z h25 b13 k13 .byte (256:Int32) [] (.int (0:Int32)) := ((Va_19.ext E22).other W25 (Ne.symm (Nat.ne_of_lt lt_o0_b13)))
  have Va_29 : Arv Z h25 b2 k2 .byte (65536:Int32) [] (.int (0:Int32)) := ((Va_20.ext E22).other W25 (Ne.symm (Nat.ne_of_lt lt_o0_b2)))
  have Va_30 : Arv Z h25 b22 k22 .int (16:Int32) [(.int (0:Int32)), (.int (0:Int32)), (.int (0:Int32)), (.int (0:Int32)), (.int (0:Int32)), (.int (0:Int32)), (.int (0:Int32)), (.int (0:Int32)), (.int (0:Int32)), (.int (0:Int32)), (.int (0:Int32)), (.int (0:Int32)), (.int (0:Int32)), (.int (0:Int32)), (.int (0:Int32)), (.int (0:Int32))] (.int (0:Int32)) := (V_b22.other W25 (Ne.symm (Nat.ne_of_lt lt_o0_b22)))
  have Ee_31 : Exa Z h25 o0 "com/example/tavola/tavola/profile/CsvReader" := (Ee_24.wr W25)
  obtain ⟨T32, h32, k32, X32, e32, E32, A32, st32⟩ := newP X25 hx hZ (hw _ (oG (i := 21) rfl)) e25 (g := (mkF m 37 #[.val (.ref o0), .val .null] [(.int (16:Int32)), (.ref o0)])) rfl (hb hby d1_37) rfl (by decide) (cap := 16) (by decide) (by decide) (by decide) (by decide)
  obtain ⟨b32, g32⟩ : ∃ z, z = h25.size := ⟨_, rfl⟩
  rw [← g32] at A32 st32
  have g_b32 : n0 ≤ b32 := Nat.le_trans Zz_27 (Nat.le_of_eq g32.symm)
  have sz_b32 : h0.size ≤ b32 := Nat.le_trans Kk_26.1 (Nat.le_of_eq g32.symm)
  have lt_b13_b32 : b13 < b32 := Nat.lt_of_lt_of_le Va_28.lt (Nat.le_of_eq g32.symm)
  have lt_b2_b32 : b2 < b32 := Nat.lt_of_lt_of_le Va_29.lt (Nat.le_of_eq g32.symm)
  have lt_b22_b32 : b22 < b32 := Nat.lt_of_lt_of_le Va_30.lt (Nat.le_of_eq g32.symm)
  have lt_o0_b32 : o0 < b32 := Nat.lt_of_lt_of_le Ee_31.lt (Nat.le_of_eq g32.symm)
  have V_b32 : Arv Z h32 b32 k32 .boolean (16:Int32) [(.int (0:Int32)), (.int (0:Int32)), (.int (0:Int32)), (.int (0:Int32)), (.int (0:Int32)), (.int (0:Int32)), (.int (0:Int32)), (.int (0:Int32)), (.int (0:Int32)), (.int (0:Int32)), (.int (0:Int32)), (.int (0:Int32)), (.int (0:Int32)), (.int (0:Int32)), (.int (0:Int32)), (.int (0:Int32))] (.int (0:Int32)) := (Arv.new A32 (by decide)).pad (pad_rep [] (.int (0:Int32)) 16)
  have Ff_33 : Fld Z h32 o0 "com/example/tavola/tavola/profile/CsvReader" "quoted" "[Z" .null := ((((((((F_quoted.ext E2).other W5 (Or.inr (slot_ne (Or.inl (hw _ (oG (i := 23) rfl))) (Or.inr (hw _ (oG (i := 14) rfl))) (by decide) (t := (.array .boolean)) (t' := (.array .byte)) (by decide) (by decide)))).other W8 (Or.inr (slot_ne (Or.inl (hw _ (oG (i := 23) rfl))) (Or.inl (hw _ (oG (i := 16) rfl))) (by decide) (t := (.array .boolean)) (t' := .long) (by decide) (by decide)))).ext E13).other W16 (Or.inr (slot_ne (Or.inl (hw _ (oG (i := 23) rfl))) (Or.inl (hw _ (oG (i := 18) rfl))) (by decide) (t := (.array .boolean)) (t' := (.array .byte)) (by decide) (by decide)))).ext E22).other W25 (Or.inr (slot_ne (Or.inl (hw _ (oG (i := 23) rfl))) (Or.inl (hw _ (oG (i := 20) rfl))) (by decide) (t := (.array .boolean)) (t' := (.array .int)) (by decide) (by decide)))).ext E32)
  have Ee_34 : Exa Z h32 o0 "com/example/tavola/tavola/profile/CsvReader" := (Ee_31.ext E32)
  obtain ⟨T35, h35, X35, e35, W35, st35⟩ := putF X32 hx hZ hown (host := "") (Or.inl (hw _ (oG (i := 22) rfl))) Via.refl e32 Ff_33 Ee_34 (Or.inl (hw _ (oG (i := 23) rfl))) (hw _ (oG (i := 3) rfl)) (ty := (.array .boolean)) (by decide) rfl rfl (g := (mkF m 39 #[.val (.ref o0), .val .null] [(.ref b32), (.ref o0)])) rfl rfl (hb hby d1_39)
  have Fw35 := Fld.same W35 Ff_33
  have N35 := Fr.snoc X35 N25 g_o0
  have Ff_36 : Fld Z h35 o0 "com/example/tavola/tavola/profile/CsvReader" "in" "Ljava/io/InputStream;" .null := (((((((((F_in.ext E2).other W5 (Or.inr (slot_ne (Or.inr (hw _ (oG (i := 25) rfl))) (Or.inr (hw _ (oG (i := 14) rfl))) (by decide) (t := (.object "java/io/InputStream")) (t' := (.array .byte)) (by decide) (by decide)))).other W8 (Or.inr (slot_ne (Or.inr (hw _ (oG (i := 25) rfl))) (Or.inl (hw _ (oG (i := 16) rfl))) (by decide) (t := (.object "java/io/InputStream")) (t' := .long) (by decide) (by decide)))).ext E13).other W16 (Or.inr (slot_ne (Or.inr (hw _ (oG (i := 25) rfl))) (Or.inl (hw _ (oG (i := 18) rfl))) (by decide) (t := (.object "java/io/InputStream")) (t' := (.array .byte)) (by decide) (by decide)))).ext E22).other W25 (Or.inr (slot_ne (Or.inr (hw _ (oG (i := 25) rfl))) (Or.inl (hw _ (oG (i := 20) rfl))) (by decide) (t := (.object "java/io/InputStream")) (t' := (.array .int)) (by decide) (by decide)))).ext E32).other W35 (Or.inr (slot_ne (Or.inr (hw _ (oG (i := 25) rfl))) (Or.inl (hw _ (oG (i := 23) rfl))) (by decide) (t := (.object "java/io/InputStream")) (t' := (.array .boolean)) (by decide) (by decide))))
  have Ee_37 : Exa Z h35 o0 "com/example/tavola/tavola/profile/CsvReader" := (Ee_34.wr W35)
  obtain ⟨T38, h38, X38, e38, W38, st38⟩ := putF X35 hx hZ hown (host := "") (Or.inl (hw _ (oG (i := 24) rfl))) Via.refl e35 Ff_36 Ee_37 (Or.inr ⟨(hw _ (oG (i := 25) rfl)), rfl, hnm⟩) (hw _ (oG (i := 3) rfl)) (ty := (.object "java/io/InputStream")) (by decide) rfl rfl (g := (mkF m 44 #[.val (.ref o0), .val .null] [.null, (.ref o0)])) rfl rfl (hb hby d1_44)
  have Fw38 := Fld.same W38 Ff_36
  have N38 := Fr.snoc X38 N35 g_o0
  have Kk_39 : Keep h0 h38 [o0] := (((Kk_26.ext E32).wr W35 (Or.inl (oG (i := 0) rfl))).wr W38 (Or.inl (oG (i := 0) rfl)))
  have Ff_40 : Fld Z h38 o0 "com/example/tavola/tavola/profile/CsvReader" "record" "[B" (.ref b13) := (((((Fw16.ext E22).other W25 (Or.inr (slot_ne (Or.inl (hw _ (oG (i := 18) rfl))) (Or.inl (hw _ (oG (i := 20) rfl))) (by decide) (t := (.array .byte)) (t' := (.array .int)) (by decide) (by decide)))).ext E32).other W35 (Or.inr (slot_ne (Or.inl (hw _ (oG (i := 18) rfl))) (Or.inl (hw _ (oG (i := 23) rfl))) (by decide) (t := (.array .byte)) (t' := (.array .boolean)) (by decide) (by decide)))).other W38 (Or.inr (slot_ne (Or.inl (hw _ (oG (i := 18) rfl))) (Or.inr (hw _ (oG (i := 25) rfl))) (by decide) (t := (.array .byte)) (t' := (.object "java/io/InputStream")) (by decide) (by decide))))
  have Ff_41 : Fld Z h38 o0 "com/example/tavola/tavola/profile/CsvReader" "ends" "[I" (.ref b22) := (((Fw25.ext E32).other W35 (Or.inr (slot_ne (Or.inl (hw _ (oG (i := 20) rfl))) (Or.inl (hw _ (oG (i := 23) rfl))) (by decide) (t := (.array .int)) (t' := (.array .boolean)) (by decide) (by decide)))).other W38 (Or.inr (slot_ne (Or.inl (hw _ (oG (i := 20) rfl))) (Or.inr (hw _ (oG (i := 25) rfl))) (by decide) (t := (.array .int)) (t' := (.object "java/io/InputStream")) (by decide) (by decide))))
  have Va_42 : Arv Z h38 b13 k13 .byte (256:Int32) [] (.int (0:Int32)) := (((Va_28.ext E32).other W35 (Ne.symm (Nat.ne_of_lt lt_o0_b13))).other W38 (Ne.symm (Nat.ne_of_lt lt_o0_b13)))
  have Va_43 : Arv Z h38 b22 k22 .int (16:Int32) [(.int (0:Int32)), (.int (0:Int32)), (.int (0:Int32)), (.int (0:Int32)), (.int (0:Int32)), (.int (0:Int32)), (.int (0:Int32)), (.int (0:Int32)), (.int (0:Int32)), (.int (0:Int32)), (.int (0:Int32)), (.int (0:Int32)), (.int (0:Int32)), (.int (0:Int32)), (.int (0:Int32)), (.int (0:Int32))] (.int (0:Int32)) := (((Va_30.ext E32).other W35 (Ne.symm (Nat.ne_of_lt lt_o0_b22))).other W38 (Ne.symm (Nat.ne_of_lt lt_o0_b22)))
  obtain ⟨fs, hr, hrun, hended, hW, hsame⟩ := X38.leave (v := none) (fun _ => rfl)
  refine ⟨_, _, pre0 _ ?_, hrun, hended, _, _, rfl, ?_, ⟨_, rfl⟩, hW, hsame.mono (by decide) (by decide)⟩
  · show Steps p.tables e below (s₁.setTop (mkF m 0 #[.val (.ref o0), .val .null] [])) _
    refine XS.aloadN X0.here hx rfl (hb hby d1_0) rfl rfl ?_
    show Steps p.tables e below (s₁.setTop (mkF m 1 #[.val (.ref o0), .val .null] [(.ref o0)])) _
    refine st1 _ ?_
    show Steps p.tables e below (T1.setTop (mkF m 4 #[.val (.ref o0), .val .null] [])) _
    refine XS.aloadN X1.here hx rfl (hb hby d1_4) rfl rfl ?_
    show Steps p.tables e below (T1.setTop (mkF m 5 #[.val (.ref o0), .val .null] [(.ref o0)])) _
    refine X1.ldcInt hx hown (mvT hZ (hw _ (oG (i := 11) rfl))) (g := (mkF m 5 #[.val (.ref o0), .val .null] [(.ref o0)])) rfl (hb hby d1_5) _ ?_
    show Steps p.tables e below (T1.setTop (mkF m 7 #[.val (.ref o0), .val .null] [(.int (65536:Int32)), (.ref o0)])) _
    refine st2 _ ?_
    show Steps p.tables e below (T2.setTop (mkF m 9 #[.val (.ref o0), .val .null] [(.ref b2), (.ref o0)])) _
    refine st5 _ ?_
    show Steps p.tables e below (T5.setTop (mkF m 12 #[.val (.ref o0), .val .null] [])) _
    refine XS.aloadN X5.here hx rfl (hb hby d1_12) rfl rfl ?_
    refine XS.lconst X5.here hx rfl (hb hby d1_13) ?_
    show Steps p.tables e below (T5.setTop (mkF m 14 #[.val (.ref o0), .val .null] [(.long (1:Int64)), (.ref o0)])) _
    refine st8 _ ?_
    show Steps p.tables e below (T8.setTop (mkF m 17 #[.val (.ref o0), .val .null] [])) _
    refine XS.aloadN X8.here hx rfl (hb hby d1_17) rfl rfl ?_
    refine XS.sipush X8.here hx rfl (hb hby d1_18) ?_
    show Steps p.tables e below (T8.setTop (mkF m 21 #[.val (.ref o0), .val .null] [(.int (256:Int32)), (.ref o0)])) _
    refine st13 _ ?_
    show Steps p.tables e below (T13.setTop (mkF m 23 #[.val (.ref o0), .val .null] [(.ref b13), (.ref o0)])) _
    refine st16 _ ?_
    show Steps p.tables e below (T16.setTop (mkF m 26 #[.val (.ref o0), .val .null] [])) _
    refine XS.aloadN X16.here hx rfl (hb hby d1_26) rfl rfl ?_
    refine XS.bipush X16.here hx rfl (hb hby d1_27) ?_
    show Steps p.tables e below (T16.setTop (mkF m 29 #[.val (.ref o0), .val .null] [(.int (16:Int32)), (.ref o0)])) _
    refine st22 _ ?_
    show Steps p.tables e below (T22.setTop (mkF m 31 #[.val (.ref o0), .val .null] [(.ref b22), (.ref o0)])) _
    refine st25 _ ?_
    show Steps p.tables e below (T25.setTop (mkF m 34 #[.val (.ref o0), .val .null] [])) _
    refine XS.aloadN X25.here hx rfl (hb hby d1_34) rfl rfl ?_
    refine XS.bipush X25.here hx rfl (hb hby d1_35) ?_
    show Steps p.tables e below (T25.setTop (mkF m 37 #[.val (.ref o0), .val .null] [(.int (16:Int32)), (.ref o0)])) _
    refine st32 _ ?_
    show Steps p.tables e below (T32.setTop (mkF m 39 #[.val (.ref o0), .val .null] [(.ref b32), (.ref o0)])) _
    refine st35 _ ?_
    show Steps p.tables e below (T35.setTop (mkF m 42 #[.val (.ref o0), .val .null] [])) _
    refine XS.aloadN X35.here hx rfl (hb hby d1_42) rfl rfl ?_
    refine XS.aloadN X35.here hx rfl (hb hby d1_43) rfl rfl ?_
    show Steps p.tables e below (T35.setTop (mkF m 44 #[.val (.ref o0), .val .null] [.null, (.ref o0)])) _
    refine st38 _ ?_
    show Steps p.tables e below (T38.setTop (mkF m 47 #[.val (.ref o0), .val .null] [])) _
    exact X38.returnOut hx Bd.returns (hb hby d1_47) hr
  · show rm1Q Z o0 h0 n0 _ T38.heap _
    rw [e38]
    exact ⟨rfl, N38, Kk_39, b13, b22, k13, k22, sz_b13, (show b13 < b22 by omega), Ff_40, Ff_41, (own_arfN Va_42), Va_43⟩
theorem d3_0 : decode prog_92_method_1_code 0 = .ok (.aload_n 0, 1) := by decide +kernel
theorem d3_1 : decode prog_92_method_1_code 1 = .ok (.invokespecial 1, 3) := by decide +kernel
theorem d3_4 : decode prog_92_method_1_code 4 = .ok (.aload_n 0, 1) := by decide +kernel
theorem d3_5 : decode prog_92_method_1_code 5 = .ok (.ldc 9, 2) := by decide +kernel
theorem d3_7 : decode prog_92_method_1_code 7 = .ok (.newarray .byte, 2) := by decide +kernel
theorem d3_9 : decode prog_92_method_1_code 9 = .ok (.putfield 10, 3) := by decide +kernel
theorem d3_12 : decode prog_92_method_1_code 12 = .ok (.aload_n 0, 1) := by decide +kernel
theorem d3_13 : decode prog_92_method_1_code 13 = .ok (.sipush 1024, 3) := by decide +kernel
theorem d3_16 : decode prog_92_method_1_code 16 = .ok (.newarray .int, 2) := by decide +kernel
theorem d3_18 : decode prog_92_method_1_code 18 = .ok (.putfield 14, 3) := by decide +kernel
theorem d3_21 : decode prog_92_method_1_code 21 = .ok (.aload_n 0, 1) := by decide +kernel
theorem d3_22 : decode prog_92_method_1_code 22 = .ok (.sipush 1024, 3) := by decide +kernel
theorem d3_25 : decode prog_92_method_1_code 25 = .ok (.newarray .int, 2) := by decide +kernel
theorem d3_27 : decode prog_92_method_1_code 27 = .ok (.putfield 18, 3) := by decide +kernel
theorem d3_30 : decode prog_92_method_1_code 30 = .ok (.aload_n 0, 1) := by decide +kernel
theorem d3_31 : decode prog_92_method_1_code 31 = .ok (.sipush 1024, 3) := by decide +kernel
theorem d3_34 : decode prog_92_method_1_code 34 = .ok (.newarray .long, 2) := by decide +kernel
theorem d3_36 : decode prog_92_method_1_code 36 = .ok (.putfield 21, 3) := by decide +kernel
theorem d3_39 : decode prog_92_method_1_code 39 = .ok (.aload_n 0, 1) := by decide +kernel
theorem d3_40 : decode prog_92_method_1_code 40 = .ok (.sipush 1024, 3) := by decide +kernel
theorem d3_43 : decode prog_92_method_1_code 43 = .ok (.newarray .long, 2) := by decide +kernel
theorem d3_45 : decode prog_92_method_1_code 45 = .ok (.putfield 25, 3) := by decide +kernel
theorem d3_48 : decode prog_92_method_1_code 48 = .ok (.aload_n 0, 1) := by decide +kernel
theorem d3_49 : decode prog_92_method_1_code 49 = .ok (.sipush 1024, 3) := by decide +kernel
theorem d3_52 : decode prog_92_method_1_code 52 = .ok (.newarray .long, 2) := by decide +kernel
theorem d3_54 : decode prog_92_method_1_code 54 = .ok (.putfield 28, 3) := by decide +kernel
theorem d3_57 : decode prog_92_method_1_code 57 = .ok (.aload_n 0, 1) := by decide +kernel
theorem d3_58 : decode prog_92_method_1_code 58 = .ok (.iload_n 1, 1) := by decide +kernel
theorem d3_59 : decode prog_92_method_1_code 59 = .ok (.putfield 31, 3) := by decide +kernel
theorem d3_62 : decode prog_92_method_1_code 62 = .ok (.aload_n 0, 1) := by decide +kernel
theorem d3_63 : decode prog_92_method_1_code 63 = .ok (.sipush 1024, 3) := by decide +kernel
theorem d3_66 : decode prog_92_method_1_code 66 = .ok (.iload_n 1, 1) := by decide +kernel
theorem d3_67 : decode prog_92_method_1_code 67 = .ok (.imul, 1) := by decide +kernel
theorem d3_68 : decode prog_92_method_1_code 68 = .ok (.newarray .int, 2) := by decide +kernel
theorem d3_70 : decode prog_92_method_1_code 70 = .ok (.putfield 35, 3) := by decide +kernel
theorem d3_73 : decode prog_92_method_1_code 73 = .ok (.return_, 1) := by decide +kernel
theorem pn_3 : plainName "com/example/tavola/tavola/profile/RowBatch" = true := by first | (simp [plainName, overriddenIn]; done) | decide +kernel
theorem ef_rm3 (m : MethodId) (o0 : Nat) (sc : Int32) : entryFrame m #[(.ref o0), (.int sc)] 2 = mkF m 0 #[.val (.ref o0), .val (.int sc)] [] := by first | (simp [entryFrame, mkF, argsToLocals, Value.category]; done) | rfl
def rm3Q (Z : State) (o0 : Nat) (sc : Int32) (h0 : Heap) (n0 : Nat) (v : Option Value) (h : Heap) (L : List Loc) : Prop := v = none ∧ Fr n0 L ∧ Keep h0 h [o0] ∧ ∃ (bk be bh bf bg bx bs : Nat) (kk ke kh kf kg kx ks : ClassId), h0.size ≤ bk ∧ bk < be ∧ be < bh ∧ bh < bf ∧ bf < bg ∧ bg < bx ∧ bx < bs ∧ Fld Z h o0 "com/example/tavola/tavola/profile/RowBatch" "staticColumns" "I" (.int sc) ∧ Fld Z h o0 "com/example/tavola/tavola/profile/RowBatch" "keysLength" "I" (.int (0:Int32)) ∧ Fld Z h o0 "com/example/tavola/tavola/profile/RowBatch" "count" "I" (.int (0:Int32)) ∧ Fld Z h o0 "com/example/tavola/tavola/profile/RowBatch" "keys" "[B" (.ref bk) ∧ Fld Z h o0 "com/example/tavola/tavola/profile/RowBatch" "keyEnds" "[I" (.ref be) ∧ Fld Z h o0 "com/example/tavola/tavola/profile/RowBatch" "hashes" "[I" (.ref bh) ∧ Fld Z h o0 "com/example/tavola/tavola/profile/RowBatch" "keyBytes" "[J" (.ref bf) ∧ Fld Z h o0 "com/example/tavola/tavola/profile/RowBatch" "rowBytes" "[J" (.ref bg) ∧ Fld Z h o0 "com/example/tavola/tavola/profile/RowBatch" "regularValues" "[J" (.ref bx) ∧ Fld Z h o0 "com/example/tavola/tavola/profile/RowBatch" "statics" "[I" (.ref bs) ∧ own_Arf Z h bk kk .byte (65536:Int32) (.int (0:Int32)) ∧ Arv Z h be ke .int (1024:Int32) [(.int (0:Int32)), (.int (0:Int32)), (.int (0:Int32))] (.int (0:Int32)) ∧ own_Arf Z h bh kh .int (1024:Int32) (.int (0:Int32)) ∧ own_Arf Z h bf kf .long (1024:Int32) (.long (0:Int64)) ∧ own_Arf Z h bg kg .long (1024:Int32) (.long (0:Int64)) ∧ own_Arf Z h bx kx .long (1024:Int32) (.long (0:Int64)) ∧ own_Arf Z h bs ks .int ((1024:Int32) * sc) (.int (0:Int32))
set_option maxRecDepth 65536 in
set_option maxHeartbeats 40000000 in
theorem rm3 (l : Launch) (Z : State) (aw : Array Value) (hw : ∀ d ∈ tables_1, d.before aw Z = true) (ws : List Jvm.Cond) (o0 : Nat) (sc : Int32) (h0 : Heap) (n0 : Nat) (Z0 : n0 ≤ h0.size) (E_o0 : Exa Z h0 o0 "com/example/tavola/tavola/profile/RowBatch") (F_keys : Fld Z h0 o0 "com/example/tavola/tavola/profile/RowBatch" "keys" "[B" .null) (F_keyEnds : Fld Z h0 o0 "com/example/tavola/tavola/profile/RowBatch" "keyEnds" "[I" .null) (F_hashes : Fld Z h0 o0 "com/example/tavola/tavola/profile/RowBatch" "hashes" "[I" .null) (F_keyBytes : Fld Z h0 o0 "com/example/tavola/tavola/profile/RowBatch" "keyBytes" "[J" .null) (F_rowBytes : Fld Z h0 o0 "com/example/tavola/tavola/profile/RowBatch" "rowBytes" "[J" .null) (F_regularValues : Fld Z h0 o0 "com/example/tavola/tavola/profile/RowBatch" "regularValues" "[J" .null) (F_statics : Fld Z h0 o0 "com/example/tavola/tavola/profile/RowBatch" "statics" "[I" .null) (F_staticColumns : Fld Z h0 o0 "com/example/tavola/tavola/profile/RowBatch" "staticColumns" "I" (.int (0:Int32))) (F_keysLength : Fld Z h0 o0 "com/example/tavola/tavola/profile/RowBatch" "keysLength" "I" (.int (0:Int32))) (F_count : Fld Z h0 o0 "com/example/tavola/tavola/profile/RowBatch" "count" "I" (.int (0:Int32))) (g_o0 : n0 ≤ o0) (hsc : sc = (0:Int32) ∨ sc = (1:Int32) ∨ sc = (2:Int32) ∨ sc = (3:Int32)) :
    MetFree l (⟨"com/example/tavola/tavola/profile/RowBatch", "<init>", "(I)V"⟩ : MethodName) (head1 (Jvm.Cond.code (⟨"com/example/tavola/tavola/profile/RowBatch", "<init>", "(I)V"⟩ : MethodName) prog_92_method_1_code 2 none :: ws) ({ frames := 1, cells := 7, slots := 73728, locals := 12 } : Room)) (fun a U => a = #[(.ref o0), (.int sc)] ∧ Z.Warmed39 U.vm ∧ U.heap = h0) (fun _ _ _ _ _ => True) (fun _ U o U' => ∃ v L, o = .returned v ∧ rm3Q Z o0 sc h0 n0 v U'.heap L ∧ FrameEnd U o U' L ({ frames := 1, cells := 7, slots := 73728, locals := 12 } : Room).cells ({ frames := 1, cells := 7, slots := 73728, locals := 12 } : Room).slots) := by
  refine MetFree.of_bodySF (plainFor_of_name pn_3) hisR ?_
  intro p e s m args below meth c s₁ Bd hml0 hP hK
  obtain ⟨rfl, hZ, hh⟩ := hP
  have hx := Bd.exec
  have hby := Bd.bytes
  have hml : c.maxLocals = 2 := hml0
  have hown : s.vm.findClass "com/example/tavola/tavola/profile/RowBatch" = some m.cls := findClass_of_methodNamed Bd.named
  have hnm := (name_of_methodNamed Bd.named Bd.method).1
  have X0 : Stand p l e ({ frames := 1, cells := 7, slots := 73728, locals := 12 } : Room) s m #[(.ref o0), (.int sc)] below meth c s₁ [] 0 0 := Stand.of_body Bd
  have e0 : s₁.heap = h0 := by rw [← hh, Bd.state]; rfl
  have N0 := Fr.nil n0
  have pre0 : ∀ t, Steps p.tables e below (s₁.setTop (mkF m 0 #[.val (.ref o0), .val (.int sc)] [])) t → Steps p.tables e below (s₁.setTop (entryFrame m #[(.ref o0), (.int sc)] 2)) t := fun t k => castTop (ef_rm3 m o0 sc) k
  obtain ⟨T1, X1, e1, st1⟩ := initO X0 hx hZ hown (hw _ (oG (i := 32) rfl)) (hw _ (oG (i := 9) rfl)) (hw _ (oG (i := 10) rfl)) e0 (g := (mkF m 1 #[.val (.ref o0), .val (.int sc)] [(.ref o0)])) rfl (by rw [hml]; rfl) rfl (hb hby d3_1) (by decide) (W := 0) (by show 2 * 0 + _ ≤ _; exact Nat.le_of_eq rfl) (by decide)
  obtain ⟨T2, h2, k2, X2, e2, E2, A2, st2⟩ := newP X1 hx hZ (hw _ (oG (i := 12) rfl)) e1 (g := (mkF m 7 #[.val (.ref o0), .val (.int sc)] [(.int (65536:Int32)), (.ref o0)])) rfl (hb hby d3_7) rfl (by decide) (cap := 65536) (by decide) (by decide) (by decide) (by decide)
  obtain ⟨b2, g2⟩ : ∃ z, z = h0.size := ⟨_, rfl⟩
  rw [← g2] at A2 st2
  have g_b2 : n0 ≤ b2 := Nat.le_trans Z0 (Nat.le_of_eq g2.symm)
  have sz_b2 : h0.size ≤ b2 := Nat.le_trans (Keep.refl h0 [o0]).1 (Nat.le_of_eq g2.symm)
  have lt_o0_b2 : o0 < b2 := Nat.lt_of_lt_of_le E_o0.lt (Nat.le_of_eq g2.symm)
  have V_b2 : Arv Z h2 b2 k2 .byte (65536:Int32) [] (.int (0:Int32)) := Arv.new A2 (by decide)
  have Ff_3 : Fld Z h2 o0 "com/example/tavola/tavola/profile/RowBatch" "keys" "[B" .null := (F_keys.ext E2)
  have Ee_4 : Exa Z h2 o0 "com/example/tavola/tavola/profile/RowBatch" := (E_o0.ext E2)
  obtain ⟨T5, h5, X5, e5, W5, st5⟩ := putF X2 hx hZ hown (host := "") (Or.inl (hw _ (oG (i := 34) rfl))) Via.refl e2 Ff_3 Ee_4 (Or.inl (hw _ (oG (i := 35) rfl))) (hw _ (oG (i := 27) rfl)) (ty := (.array .byte)) (by decide) rfl rfl (g := (mkF m 9 #[.val (.ref o0), .val (.int sc)] [(.ref b2), (.ref o0)])) rfl rfl (hb hby d3_9)
  have Fw5 := Fld.same W5 Ff_3
  have N5 := Fr.snoc X5 N0 g_o0
  have Kk_6 : Keep h0 h5 [o0] := (((Keep.refl h0 [o0]).ext E2).wr W5 (Or.inl (oG (i := 0) rfl)))
  have Zz_7 : n0 ≤ h5.size := (Nat.le_trans (Nat.le_trans Z0 E2.1) (Keep.of_wr W5).1)
  have Va_8 : Arv Z h5 b2 k2 .byte (65536:Int32) [] (.int (0:Int32)) := (V_b2.other W5 (Ne.symm (Nat.ne_of_lt lt_o0_b2)))
  have Ee_9 : Exa Z h5 o0 "com/example/tavola/tavola/profile/RowBatch" := (Ee_4.wr W5)
  obtain ⟨T10, h10, k10, X10, e10, E10, A10, st10⟩ := newP X5 hx hZ (hw _ (oG (i := 0) rfl)) e5 (g := (mkF m 16 #[.val (.ref o0), .val (.int sc)] [(.int (1024:Int32)), (.ref o0)])) rfl (hb hby d3_16) rfl (by decide) (cap := 1024) (by decide) (by decide) (by decide) (by decide)
  obtain ⟨b10, g10⟩ : ∃ z, z = h5.size := ⟨_, rfl⟩
  rw [← g10] at A10 st10
  have g_b10 : n0 ≤ b10 := Nat.le_trans Zz_7 (Nat.le_of_eq g10.symm)
  have sz_b10 : h0.size ≤ b10 := Nat.le_trans Kk_6.1 (Nat.le_of_eq g10.symm)
  have lt_b2_b10 : b2 < b10 := Nat.lt_of_lt_of_le Va_8.lt (Nat.le_of_eq g10.symm)
  have lt_o0_b10 : o0 < b10 := Nat.lt_of_lt_of_le Ee_9.lt (Nat.le_of_eq g10.symm)
  have V_b10 : Arv Z h10 b10 k10 .int (1024:Int32) [] (.int (0:Int32)) := Arv.new A10 (by decide)
  have Ff_11 : Fld Z h10 o0 "com/example/tavola/tavola/profile/RowBatch" "keyEnds" "[I" .null := (((F_keyEnds.ext E2).other W5 (Or.inr (slot_ne (Or.inr (hw _ (oG (i := 37) rfl))) (Or.inl (hw _ (oG (i := 35) rfl))) (by decide) (t := (.array .int)) (t' := (.array .byte)) (by decide) (by decide)))).ext E10)
  have Ee_12 : Exa Z h10 o0 "com/example/tavola/tavola/profile/RowBatch" := (Ee_9.ext E10)
  obtain ⟨T13, h13, X13, e13, W13, st13⟩ := putF X10 hx hZ hown (host := "") (Or.inl (hw _ (oG (i := 36) rfl))) Via.refl e10 Ff_11 Ee_12 (Or.inr ⟨(hw _ (oG (i := 37) rfl)), rfl, hnm⟩) (hw _ (oG (i := 27) rfl)) (ty := (.array .int)) (by decide) rfl rfl (g := (mkF m 18 #[.val (.ref o0), .val (.int sc)] [(.ref b10), (.ref o0)])) rfl rfl (hb hby d3_18)
  have Fw13 := Fld.same W13 Ff_11
  have N13 := Fr.snoc X13 N5 g_o0
  have Kk_14 : Keep h0 h13 [o0] := ((Kk_6.ext E10).wr W13 (Or.inl (oG (i := 0) rfl)))
  have Zz_15 : n0 ≤ h13.size := (Nat.le_trans (Nat.le_trans Zz_7 E10.1) (Keep.of_wr W13).1)
  have Va_16 : Arv Z h13 b10 k10 .int (1024:Int32) [] (.int (0:Int32)) := (V_b10.other W13 (Ne.symm (Nat.ne_of_lt lt_o0_b10)))
  have Va_17 : Arv Z h13 b2 k2 .byte (65536:Int32) [] (.int (0:Int32)) := ((Va_8.ext E10).other W13 (Ne.symm (Nat.ne_of_lt lt_o0_b2)))
  have Ee_18 : Exa Z h13 o0 "com/example/tavola/tavola/profile/RowBatch" := (Ee_12.wr W13)
  obtain ⟨T19, h19, k19, X19, e19, E19, A19, st19⟩ := newP X13 hx hZ (hw _ (oG (i := 0) rfl)) e13 (g := (mkF m 25 #[.val (.ref o0), .val (.int sc)] [(.int (1024:Int32)), (.ref o0)])) rfl (hb hby d3_25) rfl (by decide) (cap := 1024) (by decide) (by decide) (by decide) (by decide)
  obtain ⟨b19, g19⟩ : ∃ z, z = h13.size := ⟨_, rfl⟩
  rw [← g19] at A19 st19
  have g_b19 : n0 ≤ b19 := Nat.le_trans Zz_15 (Nat.le_of_eq g19.symm)
  have sz_b19 : h0.size ≤ b19 := Nat.le_trans Kk_14.1 (Nat.le_of_eq g19.symm)
  have lt_b10_b19 : b10 < b19 := Nat.lt_of_lt_of_le Va_16.lt (Nat.le_of_eq g19.symm)
  have lt_b2_b19 : b2 < b19 := Nat.lt_of_lt_of_le Va_17.lt (Nat.le_of_eq g19.symm)
  have lt_o0_b19 : o0 < b19 := Nat.lt_of_lt_of_le Ee_18.lt (Nat.le_of_eq g19.symm)
  have V_b19 : Arv Z h19 b19 k19 .int (1024:Int32) [] (.int (0:Int32)) := Arv.new A19 (by decide)
  have Ff_20 : Fld Z h19 o0 "com/example/tavola/tavola/profile/RowBatch" "hashes" "[I" .null := (((((F_hashes.ext E2).other W5 (Or.inr (slot_ne (Or.inr (hw _ (oG (i := 39) rfl))) (Or.inl (hw _ (oG (i := 35) rfl))) (by decide) (t := (.array .int)) (t' := (.array .byte)) (by decide) (by decide)))).ext E10).other W13 (Or.inr (slot_ne (Or.inr (hw _ (oG (i := 39) rfl))) (Or.inr (hw _ (oG (i := 37) rfl))) (by decide) (t := (.array .int)) (t' := (.array .int)) (by decide) (by decide)))).ext E19)
  have Ee_21 : Exa Z h19 o0 "com/example/tavola/tavola/profile/RowBatch" := (Ee_18.ext E19)
  obtain ⟨T22, h22, X22, e22, W22, st22⟩ := putF X19 hx hZ hown (host := "") (Or.inl (hw _ (oG (i := 38) rfl))) Via.refl e19 Ff_20 Ee_21 (Or.inr ⟨(hw _ (oG (i := 39) rfl)), rfl, hnm⟩) (hw _ (oG (i := 27) rfl)) (ty := (.array .int)) (by decide) rfl rfl (g := (mkF m 27 #[.val (.ref o0), .val (.int sc)] [(.ref b19), (.ref o0)])) rfl rfl (hb hby d3_27)
  have Fw22 := Fld.same W22 Ff_20
  have N22 := Fr.snoc X22 N13 g_o0
  have Kk_23 : Keep h0 h22 [o0] := ((Kk_14.ext E19).wr W22 (Or.inl (oG (i := 0) rfl)))
  have Zz_24 : n0 ≤ h22.size := (Nat.le_trans (Nat.le_trans Zz_15 E19.1) (Keep.of_wr W22).1)
  have Va_25 : Arv Z h22 b10 k10 .int (1024:Int32) [] (.int (0:Int32)) := ((Va_16.ext E19).other W22 (Ne.symm (Nat.ne_of_lt lt_o0_b10)))
  have Va_26 : Arv Z h22 b19 k19 .int (1024:Int32) [] (.int (0:Int32)) := (V_b19.other W22 (Ne.symm (Nat.ne_of_lt lt_o0_b19)))
  have Va_27 : Arv Z h22 b2 k2 .byte (65536:Int32) [] (.int (0:Int32)) := ((Va_17.ext E19).other W22 (Ne.symm (Nat.ne_of_lt lt_o0_b2)))
  have Ee_28 : Exa Z h22 o0 "com/example/tavola/tavola/profile/RowBatch" := (Ee_21.wr W22)
  obtain ⟨T29, h29, k29, X29, e29, E29, A29, st29⟩ := newP X22 hx hZ (hw _ (oG (i := 40) rfl)) e22 (g := (mkF m 34 #[.val (.ref o0), .val (.int sc)] [(.int (1024:Int32)), (.ref o0)])) rfl (hb hby d3_34) rfl (by decide) (cap := 1024) (by decide) (by decide) (by decide) (by decide)
  obtain ⟨b29, g29⟩ : ∃ z, z = h22.size := ⟨_, rfl⟩
  rw [← g29] at A29 st29
  have g_b29 : n0 ≤ b29 := Nat.le_trans Zz_24 (Nat.le_of_eq g29.symm)
  have sz_b29 : h0.size ≤ b29 := Nat.le_trans Kk_23.1 (Nat.le_of_eq g29.symm)
  have lt_b10_b29 : b10 < b29 := Nat.lt_of_lt_of_le Va_25.lt (Nat.le_of_eq g29.symm)
  have lt_b19_b29 : b19 < b29 := Nat.lt_of_lt_of_le Va_26.lt (Nat.le_of_eq g29.symm)
  have lt_b2_b29 : b2 < b29 := Nat.lt_of_lt_of_le Va_27.lt (Nat.le_of_eq g29.symm)
  have lt_o0_b29 : o0 < b29 := Nat.lt_of_lt_of_le Ee_28.lt (Nat.le_of_eq g29.symm)
  have V_b29 : Arv Z h29 b29 k29 .long (1024:Int32) [] (.long (0:Int64)) := Arv.new A29 (by decide)
  have Ff_30 : Fld Z h29 o0 "com/example/tavola/tavola/profile/RowBatch" "keyBytes" "[J" .null := (((((((F_keyBytes.ext E2).other W5 (Or.inr (slot_ne (Or.inr (hw _ (oG (i := 42) rfl))) (Or.inl (hw _ (oG (i := 35) rfl))) (by decide) (t := (.array .long)) (t' := (.array .byte)) (by decide) (by decide)))).ext E10).other W13 (Or.inr (slot_ne (Or.inr (hw _ (oG (i := 42) rfl))) (Or.inr (hw _ (oG (i := 37) rfl))) (by decide) (t := (.array .long)) (t' := (.array .int)) (by decide) (by decide)))).ext E19).other W22 (Or.inr (slot_ne (Or.inr (hw _ (oG (i := 42) rfl))) (Or.inr (hw _ (oG (i := 39) rfl))) (by decide) (t := (.array .long)) (t' := (.array .int)) (by decide) (by decide)))).ext E29)
  have Ee_31 : Exa Z h29 o0 "com/example/tavola/tavola/profile/RowBatch" := (Ee_28.ext E29)
  obtain ⟨T32, h32, X32, e32, W32, st32⟩ := putF X29 hx hZ hown (host := "") (Or.inl (hw _ (oG (i := 41) rfl))) Via.refl e29 Ff_30 Ee_31 (Or.inr ⟨(hw _ (oG (i := 42) rfl)), rfl, hnm⟩) (hw _ (oG (i := 27) rfl)) (ty := (.array .long)) (by decide) rfl rfl (g := (mkF m 36 #[.val (.ref o0), .val (.int sc)] [(.ref b29), (.ref o0)])) rfl rfl (hb hby d3_36)
  have Fw32 := Fld.same W32 Ff_30
  have N32 := Fr.snoc X32 N22 g_o0
  have Kk_33 : Keep h0 h32 [o0] := ((Kk_23.ext E29).wr W32 (Or.inl (oG (i := 0) rfl)))
  have Zz_34 : n0 ≤ h32.size := (Nat.le_trans (Nat.le_trans Zz_24 E29.1) (Keep.of_wr W32).1)
  have Va_35 : Arv Z h32 b10 k10 .int (1024:Int32) [] (.int (0:Int32)) := ((Va_25.ext E29).other W32 (Ne.symm (Nat.ne_of_lt lt_o0_b10)))
  have Va_36 : Arv Z h32 b19 k19 .int (1024:Int32) [] (.int (0:Int32)) := ((Va_26.ext E29).other W32 (Ne.symm (Nat.ne_of_lt lt_o0_b19)))
  have Va_37 : Arv Z h32 b2 k2 .byte (65536:Int32) [] (.int (0:Int32)) := ((Va_27.ext E29).other W32 (Ne.symm (Nat.ne_of_lt lt_o0_b2)))
  have Va_38 : Arv Z h32 b29 k29 .long (1024:Int32) [] (.long (0:Int64)) := (V_b29.other W32 (Ne.symm (Nat.ne_of_lt lt_o0_b29)))
  have Ee_39 : Exa Z h32 o0 "com/example/tavola/tavola/profile/RowBatch" := (Ee_31.wr W32)
  obtain ⟨T40, h40, k40, X40, e40, E40, A40, st40⟩ := newP X32 hx hZ (hw _ (oG (i := 40) rfl)) e32 (g := (mkF m 43 #[.val (.ref o0), .val (.int sc)] [(.int (1024:Int32)), (.ref o0)])) rfl (hb hby d3_43) rfl (by decide) (cap := 1024) (by decide) (by decide) (by decide) (by decide)
  obtain ⟨b40, g40⟩ : ∃ z, z = h32.size := ⟨_, rfl⟩
  rw [← g40] at A40 st40
  have g_b40 : n0 ≤ b40 := Nat.le_trans Zz_34 (Nat.le_of_eq g40.symm)
  have sz_b40 : h0.size ≤ b40 := Nat.le_trans Kk_33.1 (Nat.le_of_eq g40.symm)
  have lt_b10_b40 : b10 < b40 := Nat.lt_of_lt_of_le Va_35.lt (Nat.le_of_eq g40.symm)
  have lt_b19_b40 : b19 < b40 := Nat.lt_of_lt_of_le Va_36.lt (Nat.le_of_eq g40.symm)
  have lt_b2_b40 : b2 < b40 := Nat.lt_of_lt_of_le Va_37.lt (Nat.le_of_eq g40.symm)
  have lt_b29_b40 : b29 < b40 := Nat.lt_of_lt_of_le Va_38.lt (Nat.le_of_eq g40.symm)
  have lt_o0_b40 : o0 < b40 := Nat.lt_of_lt_of_le Ee_39.lt (Nat.le_of_eq g40.symm)
  have V_b40 : Arv Z h40 b40 k40 .long (1024:Int32) [] (.long (0:Int64)) := Arv.new A40 (by decide)
  have Ff_41 : Fld Z h40 o0 "com/example/tavola/tavola/profile/RowBatch" "rowBytes" "[J" .null := (((((((((F_rowBytes.ext E2).other W5 (Or.inr (slot_ne (Or.inr (hw _ (oG (i := 44) rfl))) (Or.inl (hw _ (oG (i := 35) rfl))) (by decide) (t := (.array .long)) (t' := (.array .byte)) (by decide) (by decide)))).ext E10).other W13 (Or.inr (slot_ne (Or.inr (hw _ (oG (i := 44) rfl))) (Or.inr (hw _ (oG (i := 37) rfl))) (by decide) (t := (.array .long)) (t' := (.array .int)) (by decide) (by decide)))).ext E19).other W22 (Or.inr (slot_ne (Or.inr (hw _ (oG (i := 44) rfl))) (Or.inr (hw _ (oG (i := 39) rfl))) (by decide) (t := (.array .long)) (t' := (.array .int)) (by decide) (by decide)))).ext E29).other W32 (Or.inr (slot_ne (Or.inr (hw _ (oG (i := 44) rfl))) (Or.inr (hw _ (oG (i := 42) rfl))) (by decide) (t := (.array .long)) (t' := (.array .long)) (by decide) (by decide)))).ext E40)
  have Ee_42 : Exa Z h40 o0 "com/example/tavola/tavola/profile/RowBatch" := (Ee_39.ext E40)
  obtain ⟨T43, h43, X43, e43, W43, st43⟩ := putF X40 hx hZ hown (host := "") (Or.inl (hw _ (oG (i := 43) rfl))) Via.refl e40 Ff_41 Ee_42 (Or.inr ⟨(hw _ (oG (i := 44) rfl)), rfl, hnm⟩) (hw _ (oG (i := 27) rfl)) (ty := (.array .long)) (by decide) rfl rfl (g := (mkF m 45 #[.val (.ref o0), .val (.int sc)] [(.ref b40), (.ref o0)])) rfl rfl (hb hby d3_45)
  have Fw43 := Fld.same W43 Ff_41
  have N43 := Fr.snoc X43 N32 g_o0
  have Kk_44 : Keep h0 h43 [o0] := ((Kk_33.ext E40).wr W43 (Or.inl (oG (i := 0) rfl)))
  have Zz_45 : n0 ≤ h43.size := (Nat.le_trans (Nat.le_trans Zz_34 E40.1) (Keep.of_wr W43).1)
  have Va_46 : Arv Z h43 b10 k10 .int (1024:Int32) [] (.int (0:Int32)) := ((Va_35.ext E40).other W43 (Ne.symm (Nat.ne_of_lt lt_o0_b10)))
  have Va_47 : Arv Z h43 b19 k19 .int (1024:Int32) [] (.int (0:Int32)) := ((Va_36.ext E40).other W43 (Ne.symm (Nat.ne_of_lt lt_o0_b19)))
  have Va_48 : Arv Z h43 b2 k2 .byte (65536:Int32) [] (.int (0:Int32)) := ((Va_37.ext E40).other W43 (Ne.symm (Nat.ne_of_lt lt_o0_b2)))
  have Va_49 : Arv Z h43 b29 k29 .long (1024:Int32) [] (.long (0:Int64)) := ((Va_38.ext E40).other W43 (Ne.symm (Nat.ne_of_lt lt_o0_b29)))
  have Va_50 : Arv Z h43 b40 k40 .long (1024:Int32) [] (.long (0:Int64)) := (V_b40.other W43 (Ne.symm (Nat.ne_of_lt lt_o0_b40)))
  have Ee_51 : Exa Z h43 o0 "com/example/tavola/tavola/profile/RowBatch" := (Ee_42.wr W43)
  obtain ⟨T52, h52, k52, X52, e52, E52, A52, st52⟩ := newP X43 hx hZ (hw _ (oG (i := 40) rfl)) e43 (g := (mkF m 52 #[.val (.ref o0), .val (.int sc)] [(.int (1024:Int32)), (.ref o0)])) rfl (hb hby d3_52) rfl (by decide) (cap := 1024) (by decide) (by decide) (by decide) (by decide)
  obtain ⟨b52, g52⟩ : ∃ z, z = h43.size := ⟨_, rfl⟩
  rw [← g52] at A52 st52
  have g_b52 : n0 ≤ b52 := Nat.le_trans Zz_45 (Nat.le_of_eq g52.symm)
  have sz_b52 : h0.size ≤ b52 := Nat.le_trans Kk_44.1 (Nat.le_of_eq g52.symm)
  have lt_b10_b52 : b10 < b52 := Nat.lt_of_lt_of_le Va_46.lt (Nat.le_of_eq g52.symm)
  have lt_b19_b52 : b19 < b52 := Nat.lt_of_lt_of_le Va_47.lt (Nat.le_of_eq g52.symm)
  have lt_b2_b52 : b2 < b52 := Nat.lt_of_lt_of_le Va_48.lt (Nat.le_of_eq g52.symm)
  have lt_b29_b52 : b29 < b52 := Nat.lt_of_lt_of_le Va_49.lt (Nat.le_of_eq g52.symm)
  have lt_b40_b52 : b40 < b52 := Nat.lt_of_lt_of_le Va_50.lt (Nat.le_of_eq g52.symm)
  have lt_o0_b52 : o0 < b52 := Nat.lt_of_lt_of_le Ee_51.lt (Nat.le_of_eq g52.symm)
  have V_b52 : Arv Z h52 b52 k52 .long (1024:Int32) [] (.long (0:Int64)) := Arv.new A52 (by decide)
  have Ff_53 : Fld Z h52 o0 "com/example/tavola/tavola/profile/RowBatch" "regularValues" "[J" .null := (((((((((((F_regularValues.ext E2).other W5 (Or.inr (slot_ne (Or.inr (hw _ (oG (i := 46) rfl))) (Or.inl (hw _ (oG (i := 35) rfl))) (by decide) (t := (.array .long)) (t' := (.array .byte)) (by decide) (by decide)))).ext E10).other W13 (Or.inr (slot_ne (Or.inr (hw _ (oG (i := 46) rfl))) (Or.inr (hw _ (oG (i := 37) rfl))) (by decide) (t := (.array .long)) (t' := (.array .int)) (by decide) (by decide)))).ext E19).other W22 (Or.inr (slot_ne (Or.inr (hw _ (oG (i := 46) rfl))) (Or.inr (hw _ (oG (i := 39) rfl))) (by decide) (t := (.array .long)) (t' := (.array .int)) (by decide) (by decide)))).ext E29).other W32 (Or.inr (slot_ne (Or.inr (hw _ (oG (i := 46) rfl))) (Or.inr (hw _ (oG (i := 42) rfl))) (by decide) (t := (.array .long)) (t' := (.array .long)) (by decide) (by decide)))).ext E40).other W43 (Or.inr (slot_ne (Or.inr (hw _ (oG (i := 46) rfl))) (Or.inr (hw _ (oG (i := 44) rfl))) (by decide) (t := (.array .long)) (t' := (.array .long)) (by decide) (by decide)))).ext E52)
  have Ee_54 : Exa Z h52 o0 "com/example/tavola/tavola/profile/RowBatch" := (Ee_51.ext E52)
  obtain ⟨T55, h55, X55, e55, W55, st55⟩ := putF X52 hx hZ hown (host := "") (Or.inl (hw _ (oG (i := 45) rfl))) Via.refl e52 Ff_53 Ee_54 (Or.inr ⟨(hw _ (oG (i := 46) rfl)), rfl, hnm⟩) (hw _ (oG (i := 27) rfl)) (ty := (.array .long)) (by decide) rfl rfl (g := (mkF m 54 #[.val (.ref o0), .val (.int sc)] [(.ref b52), (.ref o0)])) rfl rfl (hb hby d3_54)
  have Fw55 := Fld.same W55 Ff_53
  have N55 := Fr.snoc X55 N43 g_o0
  have Ff_56 : Fld Z h55 o0 "com/example/tavola/tavola/profile/RowBatch" "staticColumns" "I" (.int (0:Int32)) := ((((((((((((F_staticColumns.ext E2).other W5 (Or.inr (slot_ne (Or.inr (hw _ (oG (i := 48) rfl))) (Or.inl (hw _ (oG (i := 35) rfl))) (by decide) (t := .int) (t' := (.array .byte)) (by decide) (by decide)))).ext E10).other W13 (Or.inr (slot_ne (Or.inr (hw _ (oG (i := 48) rfl))) (Or.inr (hw _ (oG (i := 37) rfl))) (by decide) (t := .int) (t' := (.array .int)) (by decide) (by decide)))).ext E19).other W22 (Or.inr (slot_ne (Or.inr (hw _ (oG (i := 48) rfl))) (Or.inr (hw _ (oG (i := 39) rfl))) (by decide) (t := .int) (t' := (.array .int)) (by decide) (by decide)))).ext E29).other W32 (Or.inr (slot_ne (Or.inr (hw _ (oG (i := 48) rfl))) (Or.inr (hw _ (oG (i := 42) rfl))) (by decide) (t := .int) (t' := (.array .long)) (by decide) (by decide)))).ext E40).other W43 (Or.inr (slot_ne (Or.inr (hw _ (oG (i := 48) rfl))) (Or.inr (hw _ (oG (i := 44) rfl))) (by decide) (t := .int) (t' := (.array .long)) (by decide) (by decide)))).ext E52).other W55 (Or.inr (slot_ne (Or.inr (hw _ (oG (i := 48) rfl))) (Or.inr (hw _ (oG (i := 46) rfl))) (by decide) (t := .int) (t' := (.array .long)) (by decide) (by decide))))
  have Ee_57 : Exa Z h55 o0 "com/example/tavola/tavola/profile/RowBatch" := (Ee_54.wr W55)
  obtain ⟨T58, h58, X58, e58, W58, st58⟩ := putF X55 hx hZ hown (host := "") (Or.inl (hw _ (oG (i := 47) rfl))) Via.refl e55 Ff_56 Ee_57 (Or.inr ⟨(hw _ (oG (i := 48) rfl)), rfl, hnm⟩) (hw _ (oG (i := 27) rfl)) (ty := .int) (by decide) rfl rfl (g := (mkF m 59 #[.val (.ref o0), .val (.int sc)] [(.int sc), (.ref o0)])) rfl rfl (hb hby d3_59)
  have Fw58 := Fld.same W58 Ff_56
  have N58 := Fr.snoc X58 N55 g_o0
  have Kk_59 : Keep h0 h58 [o0] := (((Kk_44.ext E52).wr W55 (Or.inl (oG (i := 0) rfl))).wr W58 (Or.inl (oG (i := 0) rfl)))
  have Zz_60 : n0 ≤ h58.size := (Nat.le_trans (Nat.le_trans (Nat.le_trans Zz_45 E52.1) (Keep.of_wr W55).1) (Keep.of_wr W58).1)
  have Va_61 : Arv Z h58 b10 k10 .int (1024:Int32) [] (.int (0:Int32)) := (((Va_46.ext E52).other W55 (Ne.symm (Nat.ne_of_lt lt_o0_b10))).other W58 (Ne.symm (Nat.ne_of_lt lt_o0_b10)))
  have Va_62 : Arv Z h58 b19 k19 .int (1024:Int32) [] (.int (0:Int32)) := (((Va_47.ext E52).other W55 (Ne.symm (Nat.ne_of_lt lt_o0_b19))).other W58 (Ne.symm (Nat.ne_of_lt lt_o0_b19)))
  have Va_63 : Arv Z h58 b2 k2 .byte (65536:Int32) [] (.int (0:Int32)) := (((Va_48.ext E52).other W55 (Ne.symm (Nat.ne_of_lt lt_o0_b2))).other W58 (Ne.symm (Nat.ne_of_lt lt_o0_b2)))
  have Va_64 : Arv Z h58 b29 k29 .long (1024:Int32) [] (.long (0:Int64)) := (((Va_49.ext E52).other W55 (Ne.symm (Nat.ne_of_lt lt_o0_b29))).other W58 (Ne.symm (Nat.ne_of_lt lt_o0_b29)))
  have Va_65 : Arv Z h58 b40 k40 .long (1024:Int32) [] (.long (0:Int64)) := (((Va_50.ext E52).other W55 (Ne.symm (Nat.ne_of_lt lt_o0_b40))).other W58 (Ne.symm (Nat.ne_of_lt lt_o0_b40)))
  have Va_66 : Arv Z h58 b52 k52 .long (1024:Int32) [] (.long (0:Int64)) := ((V_b52.other W55 (Ne.symm (Nat.ne_of_lt lt_o0_b52))).other W58 (Ne.symm (Nat.ne_of_lt lt_o0_b52)))
  have Ee_67 : Exa Z h58 o0 "com/example/tavola/tavola/profile/RowBatch" := (Ee_57.wr W58)
  obtain ⟨T68, h68, k68, X68, e68, E68, A68, st68⟩ := newP X58 hx hZ (hw _ (oG (i := 0) rfl)) e58 (g := (mkF m 68 #[.val (.ref o0), .val (.int sc)] [(.int ((1024:Int32) * sc)), (.ref o0)])) rfl (hb hby d3_68) rfl (own_cap hsc).1 (cap := 3072) (own_cap hsc).2 (by decide) (by decide) (by decide)
  obtain ⟨b68, g68⟩ : ∃ z, z = h58.size := ⟨_, rfl⟩
  rw [← g68] at A68 st68
  have g_b68 : n0 ≤ b68 := Nat.le_trans Zz_60 (Nat.le_of_eq g68.symm)
  have sz_b68 : h0.size ≤ b68 := Nat.le_trans Kk_59.1 (Nat.le_of_eq g68.symm)
  have lt_b10_b68 : b10 < b68 := Nat.lt_of_lt_of_le Va_61.lt (Nat.le_of_eq g68.symm)
  have lt_b19_b68 : b19 < b68 := Nat.lt_of_lt_of_le Va_62.lt (Nat.le_of_eq g68.symm)
  have lt_b2_b68 : b2 < b68 := Nat.lt_of_lt_of_le Va_63.lt (Nat.le_of_eq g68.symm)
  have lt_b29_b68 : b29 < b68 := Nat.lt_of_lt_of_le Va_64.lt (Nat.le_of_eq g68.symm)
  have lt_b40_b68 : b40 < b68 := Nat.lt_of_lt_of_le Va_65.lt (Nat.le_of_eq g68.symm)
  have lt_b52_b68 : b52 < b68 := Nat.lt_of_lt_of_le Va_66.lt (Nat.le_of_eq g68.symm)
  have lt_o0_b68 : o0 < b68 := Nat.lt_of_lt_of_le Ee_67.lt (Nat.le_of_eq g68.symm)
  have V_b68 : Arv Z h68 b68 k68 .int ((1024:Int32) * sc) [] (.int (0:Int32)) := Arv.new A68 (own_cap hsc).1
  have Ff_69 : Fld Z h68 o0 "com/example/tavola/tavola/profile/RowBatch" "statics" "[I" .null := ((((((((((((((F_statics.ext E2).other W5 (Or.inr (slot_ne (Or.inr (hw _ (oG (i := 50) rfl))) (Or.inl (hw _ (oG (i := 35) rfl))) (by decide) (t := (.array .int)) (t' := (.array .byte)) (by decide) (by decide)))).ext E10).other W13 (Or.inr (slot_ne (Or.inr (hw _ (oG (i := 50) rfl))) (Or.inr (hw _ (oG (i := 37) rfl))) (by decide) (t := (.array .int)) (t' := (.array .int)) (by decide) (by decide)))).ext E19).other W22 (Or.inr (slot_ne (Or.inr (hw _ (oG (i := 50) rfl))) (Or.inr (hw _ (oG (i := 39) rfl))) (by decide) (t := (.array .int)) (t' := (.array .int)) (by decide) (by decide)))).ext E29).other W32 (Or.inr (slot_ne (Or.inr (hw _ (oG (i := 50) rfl))) (Or.inr (hw _ (oG (i := 42) rfl))) (by decide) (t := (.array .int)) (t' := (.array .long)) (by decide) (by decide)))).ext E40).other W43 (Or.inr (slot_ne (Or.inr (hw _ (oG (i := 50) rfl))) (Or.inr (hw _ (oG (i := 44) rfl))) (by decide) (t := (.array .int)) (t' := (.array .long)) (by decide) (by decide)))).ext E52).other W55 (Or.inr (slot_ne (Or.inr (hw _ (oG (i := 50) rfl))) (Or.inr (hw _ (oG (i := 46) rfl))) (by decide) (t := (.array .int)) (t' := (.array .long)) (by decide) (by decide)))).other W58 (Or.inr (slot_ne (Or.inr (hw _ (oG (i := 50) rfl))) (Or.inr (hw _ (oG (i := 48) rfl))) (by decide) (t := (.array .int)) (t' := .int) (by decide) (by decide)))).ext E68)
  have Ee_70 : Exa Z h68 o0 "com/example/tavola/tavola/profile/RowBatch" := (Ee_67.ext E68)
  obtain ⟨T71, h71, X71, e71, W71, st71⟩ := putF X68 hx hZ hown (host := "") (Or.inl (hw _ (oG (i := 49) rfl))) Via.refl e68 Ff_69 Ee_70 (Or.inr ⟨(hw _ (oG (i := 50) rfl)), rfl, hnm⟩) (hw _ (oG (i := 27) rfl)) (ty := (.array .int)) (by decide) rfl rfl (g := (mkF m 70 #[.val (.ref o0), .val (.int sc)] [(.ref b68), (.ref o0)])) rfl rfl (hb hby d3_70)
  have Fw71 := Fld.same W71 Ff_69
  have N71 := Fr.snoc X71 N58 g_o0
  have Kk_72 : Keep h0 h71 [o0] := ((Kk_59.ext E68).wr W71 (Or.inl (oG (i := 0) rfl)))
  have Ff_73 : Fld Z h71 o0 "com/example/tavola/tavola/profile/RowBatch" "staticColumns" "I" (.int sc) := ((Fw58.ext E68).other W71 (Or.inr (slot_ne (Or.inr (hw _ (oG (i := 48) rfl))) (Or.inr (hw _ (oG (i := 50) rfl))) (by decide) (t := .int) (t' := (.array .int)) (by decide) (by decide))))
  have Ff_74 : Fld Z h71 o0 "com/example/tavola/tavola/profile/RowBatch" "keysLength" "I" (.int (0:Int32)) := (((((((((((((((F_keysLength.ext E2).other W5 (Or.inr (slot_ne (Or.inl (hw _ (oG (i := 75) rfl))) (Or.inl (hw _ (oG (i := 35) rfl))) (by decide) (t := .int) (t' := (.array .byte)) (by decide) (by decide)))).ext E10).other W13 (Or.inr (slot_ne (Or.inl (hw _ (oG (i := 75) rfl))) (Or.inr (hw _ (oG (i := 37) rfl))) (by decide) (t := .int) (t' := (.array .int)) (by decide) (by decide)))).ext E19).other W22 (Or.inr (slot_ne (Or.inl (hw _ (oG (i := 75) rfl))) (Or.inr (hw _ (oG (i := 39) rfl))) (by decide) (t := .int) (t' := (.array .int)) (by decide) (by decide)))).ext E29).other W32 (Or.inr (slot_ne (Or.inl (hw _ (oG (i := 75) rfl))) (Or.inr (hw _ (oG (i := 42) rfl))) (by decide) (t := .int) (t' := (.array .long)) (by decide) (by decide)))).ext E40).other W43 (Or.inr (slot_ne (Or.inl (hw _ (oG (i := 75) rfl))) (Or.inr (hw _ (oG (i := 44) rfl))) (by decide) (t := .int) (t' := (.array .long)) (by decide) (by decide)))).ext E52).other W55 (Or.inr (slot_ne (Or.inl (hw _ (oG (i := 75) rfl))) (Or.inr (hw _ (oG (i := 46) rfl))) (by decide) (t := .int) (t' := (.array .long)) (by decide) (by decide)))).other W58 (Or.inr (slot_ne (Or.inl (hw _ (oG (i := 75) rfl))) (Or.inr (hw _ (oG (i := 48) rfl))) (by decide) (t := .int) (t' := .int) (by decide) (by decide)))).ext E68).other W71 (Or.inr (slot_ne (Or.inl (hw _ (oG (i := 75) rfl))) (Or.inr (hw _ (oG (i := 50) rfl))) (by decide) (t := .int) (t' := (.array .int)) (by decide) (by decide))))
  have Ff_75 : Fld Z h71 o0 "com/example/tavola/tavola/profile/RowBatch" "count" "I" (.int (0:Int32)) := (((((((((((((((F_count.ext E2).other W5 (Or.inr (slot_ne (Or.inl (hw _ (oG (i := 86) rfl))) (Or.inl (hw _ (oG (i := 35) rfl))) (by decide) (t := .int) (t' := (.array .byte)) (by decide) (by decide)))).ext E10).other W13 (Or.inr (slot_ne (Or.inl (hw _ (oG (i := 86) rfl))) (Or.inr (hw _ (oG (i := 37) rfl))) (by decide) (t := .int) (t' := (.array .int)) (by decide) (by decide)))).ext E19).other W22 (Or.inr (slot_ne (Or.inl (hw _ (oG (i := 86) rfl))) (Or.inr (hw _ (oG (i := 39) rfl))) (by decide) (t := .int) (t' := (.array .int)) (by decide) (by decide)))).ext E29).other W32 (Or.inr (slot_ne (Or.inl (hw _ (oG (i := 86) rfl))) (Or.inr (hw _ (oG (i := 42) rfl))) (by decide) (t := .int) (t' := (.array .long)) (by decide) (by decide)))).ext E40).other W43 (Or.inr (slot_ne (Or.inl (hw _ (oG (i := 86) rfl))) (Or.inr (hw _ (oG (i := 44) rfl))) (by decide) (t := .int) (t' := (.array .long)) (by decide) (by decide)))).ext E52).other W55 (Or.inr (slot_ne (Or.inl (hw _ (oG (i := 86) rfl))) (Or.inr (hw _ (oG (i := 46) rfl))) (by decide) (t := .int) (t' := (.array .long)) (by decide) (by decide)))).other W58 (Or.inr (slot_ne (Or.inl (hw _ (oG (i := 86) rfl))) (Or.inr (hw _ (oG (i := 48) rfl))) (by decide) (t := .int) (t' := .int) (by decide) (by decide)))).ext E68).other W71 (Or.inr (slot_ne (Or.inl (hw _ (oG (i := 86) rfl))) (Or.inr (hw _ (oG (i := 50) rfl))) (by decide) (t := .int) (t' := (.array .int)) (by decide) (by decide))))
  have Ff_76 : Fld Z h71 o0 "com/example/tavola/tavola/profile/RowBatch" "keys" "[B" (.ref b2) := (((((((((((((Fw5.ext E10).other W13 (Or.inr (slot_ne (Or.inl (hw _ (oG (i := 35) rfl))) (Or.inr (hw _ (oG (i := 37) rfl))) (by decide) (t := (.array .byte)) (t' := (.array .int)) (by decide) (by decide)))).ext E19).other W22 (Or.inr (slot_ne (Or.inl (hw _ (oG (i := 35) rfl))) (Or.inr (hw _ (oG (i := 39) rfl))) (by decide) (t := (.array .byte)) (t' := (.array .int)) (by decide) (by decide)))).ext E29).other W32 (Or.inr (slot_ne (Or.inl (hw _ (oG (i := 35) rfl))) (Or.inr (hw _ (oG (i := 42) rfl))) (by decide) (t := (.array .byte)) (t' := (.array .long)) (by decide) (by decide)))).ext E40).other W43 (Or.inr (slot_ne (Or.inl (hw _ (oG (i := 35) rfl))) (Or.inr (hw _ (oG (i := 44) rfl))) (by decide) (t := (.array .byte)) (t' := (.array .long)) (by decide) (by decide)))).ext E52).other W55 (Or.inr (slot_ne (Or.inl (hw _ (oG (i := 35) rfl))) (Or.inr (hw _ (oG (i := 46) rfl))) (by decide) (t := (.array .byte)) (t' := (.array .long)) (by decide) (by decide)))).other W58 (Or.inr (slot_ne (Or.inl (hw _ (oG (i := 35) rfl))) (Or.inr (hw _ (oG (i := 48) rfl))) (by decide) (t := (.array .byte)) (t' := .int) (by decide) (by decide)))).ext E68).other W71 (Or.inr (slot_ne (Or.inl (hw _ (oG (i := 35) rfl))) (Or.inr (hw _ (oG (i := 50) rfl))) (by decide) (t := (.array .byte)) (t' := (.array .int)) (by decide) (by decide))))
  have Ff_77 : Fld Z h71 o0 "com/example/tavola/tavola/profile/RowBatch" "keyEnds" "[I" (.ref b10) := (((((((((((Fw13.ext E19).other W22 (Or.inr (slot_ne (Or.inr (hw _ (oG (i := 37) rfl))) (Or.inr (hw _ (oG (i := 39) rfl))) (by decide) (t := (.array .int)) (t' := (.array .int)) (by decide) (by decide)))).ext E29).other W32 (Or.inr (slot_ne (Or.inr (hw _ (oG (i := 37) rfl))) (Or.inr (hw _ (oG (i := 42) rfl))) (by decide) (t := (.array .int)) (t' := (.array .long)) (by decide) (by decide)))).ext E40).other W43 (Or.inr (slot_ne (Or.inr (hw _ (oG (i := 37) rfl))) (Or.inr (hw _ (oG (i := 44) rfl))) (by decide) (t := (.array .int)) (t' := (.array .long)) (by decide) (by decide)))).ext E52).other W55 (Or.inr (slot_ne (Or.inr (hw _ (oG (i := 37) rfl))) (Or.inr (hw _ (oG (i := 46) rfl))) (by decide) (t := (.array .int)) (t' := (.array .long)) (by decide) (by decide)))).other W58 (Or.inr (slot_ne (Or.inr (hw _ (oG (i := 37) rfl))) (Or.inr (hw _ (oG (i := 48) rfl))) (by decide) (t := (.array .int)) (t' := .int) (by decide) (by decide)))).ext E68).other W71 (Or.inr (slot_ne (Or.inr (hw _ (oG (i := 37) rfl))) (Or.inr (hw _ (oG (i := 50) rfl))) (by decide) (t := (.array .int)) (t' := (.array .int)) (by decide) (by decide))))
  have Ff_78 : Fld Z h71 o0 "com/example/tavola/tavola/profile/RowBatch" "hashes" "[I" (.ref b19) := (((((((((Fw22.ext E29).other W32 (Or.inr (slot_ne (Or.inr (hw _ (oG (i := 39) rfl))) (Or.inr (hw _ (oG (i := 42) rfl))) (by decide) (t := (.array .int)) (t' := (.array .long)) (by decide) (by decide)))).ext E40).other W43 (Or.inr (slot_ne (Or.inr (hw _ (oG (i := 39) rfl))) (Or.inr (hw _ (oG (i := 44) rfl))) (by decide) (t := (.array .int)) (t' := (.array .long)) (by decide) (by decide)))).ext E52).other W55 (Or.inr (slot_ne (Or.inr (hw _ (oG (i := 39) rfl))) (Or.inr (hw _ (oG (i := 46) rfl))) (by decide) (t := (.array .int)) (t' := (.array .long)) (by decide) (by decide)))).other W58 (Or.inr (slot_ne (Or.inr (hw _ (oG (i := 39) rfl))) (Or.inr (hw _ (oG (i := 48) rfl))) (by decide) (t := (.array .int)) (t' := .int) (by decide) (by decide)))).ext E68).other W71 (Or.inr (slot_ne (Or.inr (hw _ (oG (i := 39) rfl))) (Or.inr (hw _ (oG (i := 50) rfl))) (by decide) (t := (.array .int)) (t' := (.array .int)) (by decide) (by decide))))
  have Ff_79 : Fld Z h71 o0 "com/example/tavola/tavola/profile/RowBatch" "keyBytes" "[J" (.ref b29) := (((((((Fw32.ext E40).other W43 (Or.inr (slot_ne (Or.inr (hw _ (oG (i := 42) rfl))) (Or.inr (hw _ (oG (i := 44) rfl))) (by decide) (t := (.array .long)) (t' := (.array .long)) (by decide) (by decide)))).ext E52).other W55 (Or.inr (slot_ne (Or.inr (hw _ (oG (i := 42) rfl))) (Or.inr (hw _ (oG (i := 46) rfl))) (by decide) (t := (.array .long)) (t' := (.array .long)) (by decide) (by decide)))).other W58 (Or.inr (slot_ne (Or.inr (hw _ (oG (i := 42) rfl))) (Or.inr (hw _ (oG (i := 48) rfl))) (by decide) (t := (.array .long)) (t' := .int) (by decide) (by decide)))).ext E68).other W71 (Or.inr (slot_ne (Or.inr (hw _ (oG (i := 42) rfl))) (Or.inr (hw _ (oG (i := 50) rfl))) (by decide) (t := (.array .long)) (t' := (.array .int)) (by decide) (by decide))))
  have Ff_80 : Fld Z h71 o0 "com/example/tavola/tavola/profile/RowBatch" "rowBytes" "[J" (.ref b40) := (((((Fw43.ext E52).other W55 (Or.inr (slot_ne (Or.inr (hw _ (oG (i := 44) rfl))) (Or.inr (hw _ (oG (i := 46) rfl))) (by decide) (t := (.array .long)) (t' := (.array .long)) (by decide) (by decide)))).other W58 (Or.inr (slot_ne (Or.inr (hw _ (oG (i := 44) rfl))) (Or.inr (hw _ (oG (i := 48) rfl))) (by decide) (t := (.array .long)) (t' := .int) (by decide) (by decide)))).ext E68).other W71 (Or.inr (slot_ne (Or.inr (hw _ (oG (i := 44) rfl))) (Or.inr (hw _ (oG (i := 50) rfl))) (by decide) (t := (.array .long)) (t' := (.array .int)) (by decide) (by decide))))
  have Ff_81 : Fld Z h71 o0 "com/example/tavola/tavola/profile/RowBatch" "regularValues" "[J" (.ref b52) := (((Fw55.other W58 (Or.inr (slot_ne (Or.inr (hw _ (oG (i := 46) rfl))) (Or.inr (hw _ (oG (i := 48) rfl))) (by decide) (t := (.array .long)) (t' := .int) (by decide) (by decide)))).ext E68).other W71 (Or.inr (slot_ne (Or.inr (hw _ (oG (i := 46) rfl))) (Or.inr (hw _ (oG (i := 50) rfl))) (by decide) (t := (.array .long)) (t' := (.array .int)) (by decide) (by decide))))
  have Va_82 : Arv Z h71 b2 k2 .byte (65536:Int32) [] (.int (0:Int32)) := ((Va_63.ext E68).other W71 (Ne.symm (Nat.ne_of_lt lt_o0_b2)))
  have Va_83 : Arv Z h71 b10 k10 .int (1024:Int32) [] (.int (0:Int32)) := ((Va_61.ext E68).other W71 (Ne.symm (Nat.ne_of_lt lt_o0_b10)))
  have Va_84 : Arv Z h71 b19 k19 .int (1024:Int32) [] (.int (0:Int32)) := ((Va_62.ext E68).other W71 (Ne.symm (Nat.ne_of_lt lt_o0_b19)))
  have Va_85 : Arv Z h71 b29 k29 .long (1024:Int32) [] (.long (0:Int64)) := ((Va_64.ext E68).other W71 (Ne.symm (Nat.ne_of_lt lt_o0_b29)))
  have Va_86 : Arv Z h71 b40 k40 .long (1024:Int32) [] (.long (0:Int64)) := ((Va_65.ext E68).other W71 (Ne.symm (Nat.ne_of_lt lt_o0_b40)))
  have Va_87 : Arv Z h71 b52 k52 .long (1024:Int32) [] (.long (0:Int64)) := ((Va_66.ext E68).other W71 (Ne.symm (Nat.ne_of_lt lt_o0_b52)))
  have Va_88 : Arv Z h71 b68 k68 .int ((1024:Int32) * sc) [] (.int (0:Int32)) := (V_b68.other W71 (Ne.symm (Nat.ne_of_lt lt_o0_b68)))
  obtain ⟨fs, hr, hrun, hended, hW, hsame⟩ := X71.leave (v := none) (fun _ => rfl)
  refine ⟨_, _, pre0 _ ?_, hrun, hended, _, _, rfl, ?_, ⟨_, rfl⟩, hW, hsame.mono (by decide) (by decide)⟩
  · show Steps p.tables e below (s₁.setTop (mkF m 0 #[.val (.ref o0), .val (.int sc)] [])) _
    refine XS.aloadN X0.here hx rfl (hb hby d3_0) rfl rfl ?_
    show Steps p.tables e below (s₁.setTop (mkF m 1 #[.val (.ref o0), .val (.int sc)] [(.ref o0)])) _
    refine st1 _ ?_
    show Steps p.tables e below (T1.setTop (mkF m 4 #[.val (.ref o0), .val (.int sc)] [])) _
    refine XS.aloadN X1.here hx rfl (hb hby d3_4) rfl rfl ?_
    show Steps p.tables e below (T1.setTop (mkF m 5 #[.val (.ref o0), .val (.int sc)] [(.ref o0)])) _
    refine X1.ldcInt hx hown (mvT hZ (hw _ (oG (i := 33) rfl))) (g := (mkF m 5 #[.val (.ref o0), .val (.int sc)] [(.ref o0)])) rfl (hb hby d3_5) _ ?_
    show Steps p.tables e below (T1.setTop (mkF m 7 #[.val (.ref o0), .val (.int sc)] [(.int (65536:Int32)), (.ref o0)])) _
    refine st2 _ ?_
    show Steps p.tables e below (T2.setTop (mkF m 9 #[.val (.ref o0), .val (.int sc)] [(.ref b2), (.ref o0)])) _
    refine st5 _ ?_
    show Steps p.tables e below (T5.setTop (mkF m 12 #[.val (.ref o0), .val (.int sc)] [])) _
    refine XS.aloadN X5.here hx rfl (hb hby d3_12) rfl rfl ?_
    refine XS.sipush X5.here hx rfl (hb hby d3_13) ?_
    show Steps p.tables e below (T5.setTop (mkF m 16 #[.val (.ref o0), .val (.int sc)] [(.int (1024:Int32)), (.ref o0)])) _
    refine st10 _ ?_
    show Steps p.tables e below (T10.setTop (mkF m 18 #[.val (.ref o0), .val (.int sc)] [(.ref b10), (.ref o0)])) _
    refine st13 _ ?_
    show Steps p.tables e below (T13.setTop (mkF m 21 #[.val (.ref o0), .val (.int sc)] [])) _
    refine XS.aloadN X13.here hx rfl (hb hby d3_21) rfl rfl ?_
    refine XS.sipush X13.here hx rfl (hb hby d3_22) ?_
    show Steps p.tables e below (T13.setTop (mkF m 25 #[.val (.ref o0), .val (.int sc)] [(.int (1024:Int32)), (.ref o0)])) _
    refine st19 _ ?_
    show Steps p.tables e below (T19.setTop (mkF m 27 #[.val (.ref o0), .val (.int sc)] [(.ref b19), (.ref o0)])) _
    refine st22 _ ?_
    show Steps p.tables e below (T22.setTop (mkF m 30 #[.val (.ref o0), .val (.int sc)] [])) _
    refine XS.aloadN X22.here hx rfl (hb hby d3_30) rfl rfl ?_
    refine XS.sipush X22.here hx rfl (hb hby d3_31) ?_
    show Steps p.tables e below (T22.setTop (mkF m 34 #[.val (.ref o0), .val (.int sc)] [(.int (1024:Int32)), (.ref o0)])) _
    refine st29 _ ?_
    show Steps p.tables e below (T29.setTop (mkF m 36 #[.val (.ref o0), .val (.int sc)] [(.ref b29), (.ref o0)])) _
    refine st32 _ ?_
    show Steps p.tables e below (T32.setTop (mkF m 39 #[.val (.ref o0), .val (.int sc)] [])) _
    refine XS.aloadN X32.here hx rfl (hb hby d3_39) rfl rfl ?_
    refine XS.sipush X32.here hx rfl (hb hby d3_40) ?_
    show Steps p.tables e below (T32.setTop (mkF m 43 #[.val (.ref o0), .val (.int sc)] [(.int (1024:Int32)), (.ref o0)])) _
    refine st40 _ ?_
    show Steps p.tables e below (T40.setTop (mkF m 45 #[.val (.ref o0), .val (.int sc)] [(.ref b40), (.ref o0)])) _
    refine st43 _ ?_
    show Steps p.tables e below (T43.setTop (mkF m 48 #[.val (.ref o0), .val (.int sc)] [])) _
    refine XS.aloadN X43.here hx rfl (hb hby d3_48) rfl rfl ?_
    refine XS.sipush X43.here hx rfl (hb hby d3_49) ?_
    show Steps p.tables e below (T43.setTop (mkF m 52 #[.val (.ref o0), .val (.int sc)] [(.int (1024:Int32)), (.ref o0)])) _
    refine st52 _ ?_
    show Steps p.tables e below (T52.setTop (mkF m 54 #[.val (.ref o0), .val (.int sc)] [(.ref b52), (.ref o0)])) _
    refine st55 _ ?_
    show Steps p.tables e below (T55.setTop (mkF m 57 #[.val (.ref o0), .val (.int sc)] [])) _
    refine XS.aloadN X55.here hx rfl (hb hby d3_57) rfl rfl ?_
    refine XS.iloadN X55.here hx rfl (hb hby d3_58) rfl ?_
    show Steps p.tables e below (T55.setTop (mkF m 59 #[.val (.ref o0), .val (.int sc)] [(.int sc), (.ref o0)])) _
    refine st58 _ ?_
    show Steps p.tables e below (T58.setTop (mkF m 62 #[.val (.ref o0), .val (.int sc)] [])) _
    refine XS.aloadN X58.here hx rfl (hb hby d3_62) rfl rfl ?_
    refine XS.sipush X58.here hx rfl (hb hby d3_63) ?_
    refine XS.iloadN X58.here hx rfl (hb hby d3_66) rfl ?_
    refine XS.imul X58.here hx rfl (hb hby d3_67) rfl ?_
    show Steps p.tables e below (T58.setTop (mkF m 68 #[.val (.ref o0), .val (.int sc)] [(.int ((1024:Int32) * sc)), (.ref o0)])) _
    refine st68 _ ?_
    show Steps p.tables e below (T68.setTop (mkF m 70 #[.val (.ref o0), .val (.int sc)] [(.ref b68), (.ref o0)])) _
    refine st71 _ ?_
    show Steps p.tables e below (T71.setTop (mkF m 73 #[.val (.ref o0), .val (.int sc)] [])) _
    exact X71.returnOut hx Bd.returns (hb hby d3_73) hr
  · show rm3Q Z o0 sc h0 n0 _ T71.heap _
    rw [e71]
    exact ⟨rfl, N71, Kk_72, b2, b10, b19, b29, b40, b52, b68, k2, k10, k19, k29, k40, k52, k68, sz_b2, (show b2 < b10 by omega), (show b10 < b19 by omega), (show b19 < b29 by omega), (show b29 < b40 by omega), (show b40 < b52 by omega), (show b52 < b68 by omega), Ff_73, Ff_74, Ff_75, Ff_76, Ff_77, Ff_78, Ff_79, Ff_80, Ff_81, Fw71, (own_arfN Va_82), (Arv.pad Va_83 (pad_rep [] (.int (0:Int32)) 3)), (own_arfN Va_84), (own_arfN Va_85), (own_arfN Va_86), (own_arfN Va_87), (own_arfN Va_88)⟩
theorem d6_0 : decode prog_92_method_2_code 0 = .ok (.aload_n 1, 1) := by decide +kernel
theorem d6_1 : decode prog_92_method_2_code 1 = .ok (.aload_n 2, 1) := by decide +kernel
theorem d6_2 : decode prog_92_method_2_code 2 = .ok (.invokevirtual 38, 3) := by decide +kernel
theorem d6_5 : decode prog_92_method_2_code 5 = .ok (.lstore 9, 2) := by decide +kernel
theorem d6_7 : decode prog_92_method_2_code 7 = .ok (.aload_n 0, 1) := by decide +kernel
theorem d6_8 : decode prog_92_method_2_code 8 = .ok (.getfield 44, 3) := by decide +kernel
theorem d6_11 : decode prog_92_method_2_code 11 = .ok (.i2l, 1) := by decide +kernel
theorem d6_12 : decode prog_92_method_2_code 12 = .ok (.lload 9, 2) := by decide +kernel
theorem d6_14 : decode prog_92_method_2_code 14 = .ok (.ladd, 1) := by decide +kernel
theorem d6_15 : decode prog_92_method_2_code 15 = .ok (.aload_n 0, 1) := by decide +kernel
theorem d6_16 : decode prog_92_method_2_code 16 = .ok (.getfield 10, 3) := by decide +kernel
theorem d6_19 : decode prog_92_method_2_code 19 = .ok (.arraylength, 1) := by decide +kernel
theorem d6_20 : decode prog_92_method_2_code 20 = .ok (.i2l, 1) := by decide +kernel
theorem d6_21 : decode prog_92_method_2_code 21 = .ok (.lcmp, 1) := by decide +kernel
theorem d6_22 : decode prog_92_method_2_code 22 = .ok (.ifCond .le 36, 3) := by decide +kernel
theorem d6_58 : decode prog_92_method_2_code 58 = .ok (.aload_n 1, 1) := by decide +kernel
theorem d6_59 : decode prog_92_method_2_code 59 = .ok (.aload_n 2, 1) := by decide +kernel
theorem d6_60 : decode prog_92_method_2_code 60 = .ok (.aload_n 0, 1) := by decide +kernel
theorem d6_61 : decode prog_92_method_2_code 61 = .ok (.getfield 10, 3) := by decide +kernel
theorem d6_64 : decode prog_92_method_2_code 64 = .ok (.aload_n 0, 1) := by decide +kernel
theorem d6_65 : decode prog_92_method_2_code 65 = .ok (.getfield 44, 3) := by decide +kernel
theorem d6_68 : decode prog_92_method_2_code 68 = .ok (.invokevirtual 61, 3) := by decide +kernel
theorem d6_71 : decode prog_92_method_2_code 71 = .ok (.aload_n 0, 1) := by decide +kernel
theorem d6_72 : decode prog_92_method_2_code 72 = .ok (.dup, 1) := by decide +kernel
theorem d6_73 : decode prog_92_method_2_code 73 = .ok (.getfield 44, 3) := by decide +kernel
theorem d6_76 : decode prog_92_method_2_code 76 = .ok (.lload 9, 2) := by decide +kernel
theorem d6_78 : decode prog_92_method_2_code 78 = .ok (.l2i, 1) := by decide +kernel
theorem d6_79 : decode prog_92_method_2_code 79 = .ok (.iadd, 1) := by decide +kernel
theorem d6_80 : decode prog_92_method_2_code 80 = .ok (.putfield 44, 3) := by decide +kernel
theorem d6_83 : decode prog_92_method_2_code 83 = .ok (.aload_n 0, 1) := by decide +kernel
theorem d6_84 : decode prog_92_method_2_code 84 = .ok (.dup, 1) := by decide +kernel
theorem d6_85 : decode prog_92_method_2_code 85 = .ok (.getfield 65, 3) := by decide +kernel
theorem d6_88 : decode prog_92_method_2_code 88 = .ok (.dup_x1, 1) := by decide +kernel
theorem d6_89 : decode prog_92_method_2_code 89 = .ok (.iconst 1, 1) := by decide +kernel
theorem d6_90 : decode prog_92_method_2_code 90 = .ok (.iadd, 1) := by decide +kernel
theorem d6_91 : decode prog_92_method_2_code 91 = .ok (.putfield 65, 3) := by decide +kernel
theorem d6_94 : decode prog_92_method_2_code 94 = .ok (.istore 11, 2) := by decide +kernel
theorem d6_96 : decode prog_92_method_2_code 96 = .ok (.aload_n 0, 1) := by decide +kernel
theorem d6_97 : decode prog_92_method_2_code 97 = .ok (.getfield 14, 3) := by decide +kernel
theorem d6_100 : decode prog_92_method_2_code 100 = .ok (.iload 11, 2) := by decide +kernel
theorem d6_102 : decode prog_92_method_2_code 102 = .ok (.aload_n 0, 1) := by decide +kernel
theorem d6_103 : decode prog_92_method_2_code 103 = .ok (.getfield 44, 3) := by decide +kernel
theorem d6_106 : decode prog_92_method_2_code 106 = .ok (.iastore, 1) := by decide +kernel
theorem d6_107 : decode prog_92_method_2_code 107 = .ok (.aload_n 0, 1) := by decide +kernel
theorem d6_108 : decode prog_92_method_2_code 108 = .ok (.getfield 18, 3) := by decide +kernel
theorem d6_111 : decode prog_92_method_2_code 111 = .ok (.iload 11, 2) := by decide +kernel
theorem d6_113 : decode prog_92_method_2_code 113 = .ok (.aload_n 1, 1) := by decide +kernel
theorem d6_114 : decode prog_92_method_2_code 114 = .ok (.aload_n 2, 1) := by decide +kernel
theorem d6_115 : decode prog_92_method_2_code 115 = .ok (.invokevirtual 68, 3) := by decide +kernel
theorem d6_118 : decode prog_92_method_2_code 118 = .ok (.iastore, 1) := by decide +kernel
theorem d6_119 : decode prog_92_method_2_code 119 = .ok (.aload_n 0, 1) := by decide +kernel
theorem d6_120 : decode prog_92_method_2_code 120 = .ok (.getfield 21, 3) := by decide +kernel
theorem d6_123 : decode prog_92_method_2_code 123 = .ok (.iload 11, 2) := by decide +kernel
theorem d6_125 : decode prog_92_method_2_code 125 = .ok (.lload_n 3, 1) := by decide +kernel
theorem d6_126 : decode prog_92_method_2_code 126 = .ok (.lastore, 1) := by decide +kernel
theorem d6_127 : decode prog_92_method_2_code 127 = .ok (.aload_n 0, 1) := by decide +kernel
theorem d6_128 : decode prog_92_method_2_code 128 = .ok (.getfield 25, 3) := by decide +kernel
theorem d6_131 : decode prog_92_method_2_code 131 = .ok (.iload 11, 2) := by decide +kernel
theorem d6_133 : decode prog_92_method_2_code 133 = .ok (.lload 5, 2) := by decide +kernel
theorem d6_135 : decode prog_92_method_2_code 135 = .ok (.lastore, 1) := by decide +kernel
theorem d6_136 : decode prog_92_method_2_code 136 = .ok (.aload_n 0, 1) := by decide +kernel
theorem d6_137 : decode prog_92_method_2_code 137 = .ok (.getfield 28, 3) := by decide +kernel
theorem d6_140 : decode prog_92_method_2_code 140 = .ok (.iload 11, 2) := by decide +kernel
theorem d6_142 : decode prog_92_method_2_code 142 = .ok (.lload 7, 2) := by decide +kernel
theorem d6_144 : decode prog_92_method_2_code 144 = .ok (.lastore, 1) := by decide +kernel
theorem d6_145 : decode prog_92_method_2_code 145 = .ok (.aload_n 0, 1) := by decide +kernel
theorem d6_146 : decode prog_92_method_2_code 146 = .ok (.getfield 35, 3) := by decide +kernel
theorem d6_149 : decode prog_92_method_2_code 149 = .ok (.iload 11, 2) := by decide +kernel
theorem d6_151 : decode prog_92_method_2_code 151 = .ok (.aload_n 0, 1) := by decide +kernel
theorem d6_152 : decode prog_92_method_2_code 152 = .ok (.getfield 31, 3) := by decide +kernel
theorem d6_155 : decode prog_92_method_2_code 155 = .ok (.imul, 1) := by decide +kernel
theorem d6_156 : decode prog_92_method_2_code 156 = .ok (.iload 11, 2) := by decide +kernel
theorem d6_158 : decode prog_92_method_2_code 158 = .ok (.iconst 1, 1) := by decide +kernel
theorem d6_159 : decode prog_92_method_2_code 159 = .ok (.iadd, 1) := by decide +kernel
theorem d6_160 : decode prog_92_method_2_code 160 = .ok (.aload_n 0, 1) := by decide +kernel
theorem d6_161 : decode prog_92_method_2_code 161 = .ok (.getfield 31, 3) := by decide +kernel
theorem d6_164 : decode prog_92_method_2_code 164 = .ok (.imul, 1) := by decide +kernel
theorem d6_165 : decode prog_92_method_2_code 165 = .ok (.iconst (-1), 1) := by decide +kernel
theorem d6_166 : decode prog_92_method_2_code 166 = .ok (.invokestatic 72, 3) := by decide +kernel
theorem d6_169 : decode prog_92_method_2_code 169 = .ok (.iload 11, 2) := by decide +kernel
theorem d6_171 : decode prog_92_method_2_code 171 = .ok (.ireturn, 1) := by decide +kernel
theorem pn_6 : plainName "com/example/tavola/tavola/profile/RowBatch" = true := by first | (simp [plainName, overriddenIn]; done) | decide +kernel
theorem pd_rm6_0_0 : parseMethodDescriptor "([I)J" = some ⟨[(.array .int)], some .long⟩ := by decide +kernel
theorem pd_rm6_0_1 : parseMethodDescriptor "([I[BI)V" = some ⟨[(.array .int), (.array .byte), .int], none⟩ := by decide +kernel
theorem pd_rm6_0_2 : parseMethodDescriptor "([I)I" = some ⟨[(.array .int)], some .int⟩ := by decide +kernel
theorem pd_rm6_0_3 : parseMethodDescriptor "([IIII)V" = some ⟨[(.array .int), .int, .int, .int], none⟩ := by decide +kernel
theorem ef_rm6_0 (m : MethodId) (o0 : Nat) (o1 : Nat) (o2 : Nat) (q3 : Int64) (q4 : Int64) (q5 : Int64) : entryFrame m #[(.ref o0), (.ref o1), (.ref o2), (.long q3), (.long q4), (.long q5)] 12 = mkF m 0 #[.val (.ref o0), .val (.ref o1), .val (.ref o2), .val (.long q3), .second, .val (.long q4), .second, .val (.long q5), .second, .unset, .unset, .unset] [] := by first | (simp [entryFrame, mkF, argsToLocals, Value.category]; done) | rfl
def rm6_0Q (Z : State) (o0 : Nat) (bn br bk be bh bf bg bx bs : Nat) (kn kr k1 kk ke kh kf kg kx ks : ClassId) (LL sc ss u0 u1 u2 : Int32) (h0 : Heap) (n0 : Nat) (v : Option Value) (h : Heap) (L : List Loc) : Prop := v = some (.int (0:Int32)) ∧ Fr n0 L ∧ Keep h0 h [o0, bk, be, bh, bf, bg, bx, bs] ∧ Fld Z h o0 "com/example/tavola/tavola/profile/RowBatch" "staticColumns" "I" (.int sc) ∧ Fld Z h o0 "com/example/tavola/tavola/profile/RowBatch" "keysLength" "I" (.int (ss + ((own_kl LL).toInt32))) ∧ Fld Z h o0 "com/example/tavola/tavola/profile/RowBatch" "count" "I" (.int (1:Int32)) ∧ Fld Z h o0 "com/example/tavola/tavola/profile/RowBatch" "keys" "[B" (.ref bk) ∧ Fld Z h o0 "com/example/tavola/tavola/profile/RowBatch" "keyEnds" "[I" (.ref be) ∧ Fld Z h o0 "com/example/tavola/tavola/profile/RowBatch" "hashes" "[I" (.ref bh) ∧ Fld Z h o0 "com/example/tavola/tavola/profile/RowBatch" "keyBytes" "[J" (.ref bf) ∧ Fld Z h o0 "com/example/tavola/tavola/profile/RowBatch" "rowBytes" "[J" (.ref bg) ∧ Fld Z h o0 "com/example/tavola/tavola/profile/RowBatch" "regularValues" "[J" (.ref bx) ∧ Fld Z h o0 "com/example/tavola/tavola/profile/RowBatch" "statics" "[I" (.ref bs) ∧ own_Arf Z h bk kk .byte (65536:Int32) (.int (0:Int32)) ∧ Arv Z h be ke .int (1024:Int32) [(.int (ss + ((own_kl LL).toInt32))), (.int u1), (.int u2)] (.int (0:Int32)) ∧ own_Arf Z h bh kh .int (1024:Int32) (.int (0:Int32)) ∧ own_Arf Z h bf kf .long (1024:Int32) (.long (0:Int64)) ∧ own_Arf Z h bg kg .long (1024:Int32) (.long (0:Int64)) ∧ own_Arf Z h bx kx .long (1024:Int32) (.long (0:Int64)) ∧ own_Arf Z h bs ks .int ((1024:Int32) * sc) (.int (0:Int32))
set_option maxRecDepth 65536 in
set_option maxHeartbeats 40000000 in
theorem rm6_0 (l : Launch) (Z : State) (aw : Array Value) (hw : ∀ d ∈ tables_1, d.before aw Z = true) (ws : List Jvm.Cond) (o0 : Nat) (o1 : Nat) (o2 : Nat) (q3 : Int64) (q4 : Int64) (q5 : Int64) (bn br bk be bh bf bg bx bs : Nat) (kn kr k1 kk ke kh kf kg kx ks : ClassId) (LL sc ss u0 u1 u2 : Int32) (h0 : Heap) (n0 : Nat) (Z0 : n0 ≤ h0.size) (E_o0 : Exa Z h0 o0 "com/example/tavola/tavola/profile/RowBatch") (E_o1 : Exa Z h0 o1 "com/example/tavola/tavola/profile/CsvReader") (F_ends : Fld Z h0 o1 "com/example/tavola/tavola/profile/CsvReader" "ends" "[I" (.ref bn)) (V_bn : Arv Z h0 bn kn .int (16:Int32) [] (.int (0:Int32))) (F_rec : Fld Z h0 o1 "com/example/tavola/tavola/profile/CsvReader" "record" "[B" (.ref br)) (A_br : own_Arf Z h0 br kr .byte (256:Int32) (.int (0:Int32))) (V_o2 : Arv Z h0 o2 k1 .int LL [] (.int (0:Int32))) (Fi0 : Fld Z h0 o0 "com/example/tavola/tavola/profile/RowBatch" "staticColumns" "I" (.int sc)) (Fi1 : Fld Z h0 o0 "com/example/tavola/tavola/profile/RowBatch" "keysLength" "I" (.int ss)) (Fi2 : Fld Z h0 o0 "com/example/tavola/tavola/profile/RowBatch" "count" "I" (.int (0:Int32))) (Fa0 : Fld Z h0 o0 "com/example/tavola/tavola/profile/RowBatch" "keys" "[B" (.ref bk)) (Fa1 : Fld Z h0 o0 "com/example/tavola/tavola/profile/RowBatch" "keyEnds" "[I" (.ref be)) (Fa2 : Fld Z h0 o0 "com/example/tavola/tavola/profile/RowBatch" "hashes" "[I" (.ref bh)) (Fa3 : Fld Z h0 o0 "com/example/tavola/tavola/profile/RowBatch" "keyBytes" "[J" (.ref bf)) (Fa4 : Fld Z h0 o0 "com/example/tavola/tavola/profile/RowBatch" "rowBytes" "[J" (.ref bg)) (Fa5 : Fld Z h0 o0 "com/example/tavola/tavola/profile/RowBatch" "regularValues" "[J" (.ref bx)) (Fa6 : Fld Z h0 o0 "com/example/tavola/tavola/profile/RowBatch" "statics" "[I" (.ref bs)) (Va0 : own_Arf Z h0 bk kk .byte (65536:Int32) (.int (0:Int32))) (Va1 : Arv Z h0 be ke .int (1024:Int32) [(.int u0), (.int u1), (.int u2)] (.int (0:Int32))) (Va2 : own_Arf Z h0 bh kh .int (1024:Int32) (.int (0:Int32))) (Va3 : own_Arf Z h0 bf kf .long (1024:Int32) (.long (0:Int64))) (Va4 : own_Arf Z h0 bg kg .long (1024:Int32) (.long (0:Int64))) (Va5 : own_Arf Z h0 bx kx .long (1024:Int32) (.long (0:Int64))) (Va6 : own_Arf Z h0 bs ks .int ((1024:Int32) * sc) (.int (0:Int32))) (lt0 : o2 < o1) (lt1 : o1 < br) (lt2 : br < bn) (lt3 : bn < o0) (lt4 : o0 < bk) (lt5 : bk < be) (lt6 : be < bh) (lt7 : bh < bf) (lt8 : bf < bg) (lt9 : bg < bx) (lt10 : bx < bs) (g_o0 : n0 ≤ o0) (g_bk : n0 ≤ bk) (g_be : n0 ≤ be) (g_bh : n0 ≤ bh) (g_bf : n0 ≤ bf) (g_bg : n0 ≤ bg) (g_bx : n0 ≤ bx) (g_bs : n0 ≤ bs) (hL : LL = (1:Int32) ∨ LL = (2:Int32) ∨ LL = (3:Int32) ∨ LL = (4:Int32)) (hsc : sc = (0:Int32) ∨ sc = (1:Int32) ∨ sc = (2:Int32) ∨ sc = (3:Int32)) (hp0 : ¬ ss < (0:Int32)) (hp6 : ¬ (6:Int32) < ss) :
    MetFree l (⟨"com/example/tavola/tavola/profile/RowBatch", "add", "(Lcom/example/tavola/tavola/profile/CsvReader;[IJJJ)I"⟩ : MethodName) (head1 (Jvm.Cond.code (⟨"com/example/tavola/tavola/profile/RowBatch", "add", "(Lcom/example/tavola/tavola/profile/CsvReader;[IJJJ)I"⟩ : MethodName) prog_92_method_2_code 12 (some .int) :: ws) ({ frames := 2, cells := 0, slots := 0, locals := 78 } : Room)) (fun a U => a = #[(.ref o0), (.ref o1), (.ref o2), (.long q3), (.long q4), (.long q5)] ∧ Z.Warmed39 U.vm ∧ U.heap = h0) (fun _ _ _ _ _ => True) (fun _ U o U' => ∃ v L, o = .returned v ∧ rm6_0Q Z o0 bn br bk be bh bf bg bx bs kn kr k1 kk ke kh kf kg kx ks LL sc ss u0 u1 u2 h0 n0 v U'.heap L ∧ FrameEnd U o U' L ({ frames := 2, cells := 0, slots := 0, locals := 78 } : Room).cells ({ frames := 2, cells := 0, slots := 0, locals := 78 } : Room).slots) := by
  refine MetFree.of_bodySF (plainFor_of_name pn_6) hisR ?_
  intro p e s m args below meth c s₁ Bd hml0 hP hK
  obtain ⟨rfl, hZ, hh⟩ := hP
  have hx := Bd.exec
  have hby := Bd.bytes
  have hml : c.maxLocals = 12 := hml0
  have hown : s.vm.findClass "com/example/tavola/tavola/profile/RowBatch" = some m.cls := findClass_of_methodNamed Bd.named
  have hnm := (name_of_methodNamed Bd.named Bd.method).1
  have X0 : Stand p l e ({ frames := 2, cells := 0, slots := 0, locals := 78 } : Room) s m #[(.ref o0), (.ref o1), (.ref o2), (.long q3), (.long q4), (.long q5)] below meth c s₁ [] 0 0 := Stand.of_body Bd
  have e0 : s₁.heap = h0 := by rw [← hh, Bd.state]; rfl
  have N0 := Fr.nil n0
  have pre0 : ∀ t, Steps p.tables e below (s₁.setTop (mkF m 0 #[.val (.ref o0), .val (.ref o1), .val (.ref o2), .val (.long q3), .second, .val (.long q4), .second, .val (.long q5), .second, .unset, .unset, .unset] [])) t → Steps p.tables e below (s₁.setTop (entryFrame m #[(.ref o0), (.ref o1), (.ref o2), (.long q3), (.long q4), (.long q5)] 12)) t := fun t k => castTop (ef_rm6_0 m o0 o1 o2 q3 q4 q5) k
  obtain ⟨cq1, kq1, q1a, q1b, q1c⟩ := isOf hZ e0 (E_o1)
  obtain ⟨_, _, ⟨T1, L1, k1, n1⟩, -, X1, ⟨Lc1, hQ1, l1, y1, z1⟩, st1⟩ := X0.virtualBack hx (y := (⟨"com/example/tavola/tavola/profile/CsvReader", "keyLength", "([I)J"⟩ : MethodName)) (z := (⟨"com/example/tavola/tavola/profile/CsvReader", "keyLength", "([I)J"⟩ : MethodName)) hown (mvT hZ (hw _ (oG (i := 65) rfl))) (mvT hZ (hw _ (oG (i := 66) rfl))) (notFace_of_selects (args := #[]) (mvT hZ (hw _ (oG (i := 68) rfl)))) (mvT hZ (hw _ (oG (i := 68) rfl))) (mvT hZ (hw _ (oG (i := 67) rfl))) (by decide) (backOf (W := 0) (rm7 l Z aw hw [] o1 o2 bn kn k1 LL h0 n0 Z0 E_o1 F_ends V_bn V_o2 hL) hZ (hw _ (oG (i := 69) rfl)) (hw _ (oG (i := 4) rfl)) (by decide) (by decide)) q1a q1c (g := (mkF m 2 #[.val (.ref o0), .val (.ref o1), .val (.ref o2), .val (.long q3), .second, .val (.long q4), .second, .val (.long q5), .second, .unset, .unset, .unset] [(.ref o2), (.ref o1)])) rfl (by rw [hml]; rfl) (Steps.refl _) (argsL := [(.ref o2)]) (rest := []) (lenOf pd_rm6_0_0 rfl) rfl (by show 2 * 0 + _ ≤ _; exact Nat.le_of_eq rfl) (hb hby d6_2) (fun _ _ => ⟨rfl, e0, (by decide : 0 + 0 ≤ _), (by decide : 0 + 0 ≤ _)⟩)
  dsimp only [Pt.U, Pt.locs, Pt.cells, Pt.slots] at X1 l1 y1 z1 st1 hQ1
  subst l1 y1 z1
  obtain ⟨rfl, N1q, e1q⟩ := hQ1
  have N1 := Fr.app N0 N1q
  obtain ⟨T2, X2, e2, st2⟩ := getF X1 hx hZ hown (host := "") (Or.inl (hw _ (oG (i := 74) rfl))) Via.refl e1q Fi1 (g := (mkF m 8 #[.val (.ref o0), .val (.ref o1), .val (.ref o2), .val (.long q3), .second, .val (.long q4), .second, .val (.long q5), .second, .val (.long (own_kl LL)), .second, .unset] [(.ref o0)])) rfl rfl (hb hby d6_8)
  obtain ⟨T3, X3, e3, st3⟩ := getF X2 hx hZ hown (host := "") (Or.inl (hw _ (oG (i := 34) rfl))) Via.refl e2 Fa0 (g := (mkF m 16 #[.val (.ref o0), .val (.ref o1), .val (.ref o2), .val (.long q3), .second, .val (.long q4), .second, .val (.long q5), .second, .val (.long (own_kl LL)), .second, .unset] [(.ref o0), (.long ((ss.toInt64) + (own_kl LL)))])) rfl rfl (hb hby d6_16)
  obtain ⟨vs4, hl4, cl4, Ar4, -, S4, N4', -, -⟩ := id Va0
  obtain ⟨T5, X5, e5, st5⟩ := getF X3 hx hZ hown (host := "") (Or.inl (hw _ (oG (i := 34) rfl))) Via.refl e3 Fa0 (g := (mkF m 61 #[.val (.ref o0), .val (.ref o1), .val (.ref o2), .val (.long q3), .second, .val (.long q4), .second, .val (.long q5), .second, .val (.long (own_kl LL)), .second, .unset] [(.ref o0), (.ref o2), (.ref o1)])) rfl rfl (hb hby d6_61)
  obtain ⟨T6, X6, e6, st6⟩ := getF X5 hx hZ hown (host := "") (Or.inl (hw _ (oG (i := 74) rfl))) Via.refl e5 Fi1 (g := (mkF m 65 #[.val (.ref o0), .val (.ref o1), .val (.ref o2), .val (.long q3), .second, .val (.long q4), .second, .val (.long q5), .second, .val (.long (own_kl LL)), .second, .unset] [(.ref o0), (.ref bk), (.ref o2), (.ref o1)])) rfl rfl (hb hby d6_65)
  obtain ⟨cq7, kq7, q7a, q7b, q7c⟩ := isOf hZ e6 (E_o1)
  obtain ⟨_, _, ⟨T7, L7, k7, n7⟩, -, X7, ⟨Lc7, hQ7, l7, y7, z7⟩, st7⟩ := X6.virtualBack hx (y := (⟨"com/example/tavola/tavola/profile/CsvReader", "copyKey", "([I[BI)V"⟩ : MethodName)) (z := (⟨"com/example/tavola/tavola/profile/CsvReader", "copyKey", "([I[BI)V"⟩ : MethodName)) hown (mvT hZ (hw _ (oG (i := 76) rfl))) (mvT hZ (hw _ (oG (i := 77) rfl))) (notFace_of_selects (args := #[]) (mvT hZ (hw _ (oG (i := 79) rfl)))) (mvT hZ (hw _ (oG (i := 79) rfl))) (mvT hZ (hw _ (oG (i := 78) rfl))) (by decide) (backOf (W := 0) (rm9 l Z aw hw [] o1 o2 bk ss bn br kn kr k1 kk LL h0 n0 Z0 E_o1 F_ends V_bn F_rec A_br V_o2 Va0 g_bk hp0 hp6 (by omega) (by omega) (by omega) (by omega) hL) hZ (hw _ (oG (i := 80) rfl)) (hw _ (oG (i := 4) rfl)) (by decide) (by decide)) q7a q7c (g := (mkF m 68 #[.val (.ref o0), .val (.ref o1), .val (.ref o2), .val (.long q3), .second, .val (.long q4), .second, .val (.long q5), .second, .val (.long (own_kl LL)), .second, .unset] [(.int ss), (.ref bk), (.ref o2), (.ref o1)])) rfl (by rw [hml]; rfl) (Steps.refl _) (argsL := [(.ref o2), (.ref bk), (.int ss)]) (rest := []) (lenOf pd_rm6_0_1 rfl) rfl (by show 2 * 0 + _ ≤ _; exact Nat.le_of_eq rfl) (hb hby d6_68) (fun _ _ => ⟨rfl, e6, (by decide : 0 + 0 ≤ _), (by decide : 0 + 0 ≤ _)⟩)
  dsimp only [Pt.U, Pt.locs, Pt.cells, Pt.slots] at X7 l7 y7 z7 st7 hQ7
  subst l7 y7 z7
  obtain ⟨rfl, N7q, K7q, A7q⟩ := hQ7
  have N7 := Fr.app N1 N7q
  have ne_8 : o0 ≠ bk := by omega
  have Ff_9 : Fld Z T7.heap o0 "com/example/tavola/tavola/profile/RowBatch" "keysLength" "I" (.int ss) := (Fi1.keep K7q (ninS ne_8 nin0))
  obtain ⟨T10, X10, e10, st10⟩ := getF X7 hx hZ hown (host := "") (Or.inl (hw _ (oG (i := 74) rfl))) Via.refl rfl Ff_9 (g := (mkF m 73 #[.val (.ref o0), .val (.ref o1), .val (.ref o2), .val (.long q3), .second, .val (.long q4), .second, .val (.long q5), .second, .val (.long (own_kl LL)), .second, .unset] [(.ref o0), (.ref o0)])) rfl rfl (hb hby d6_73)
  have Ee_11 : Exa Z T7.heap o0 "com/example/tavola/tavola/profile/RowBatch" := (E_o0.keep K7q)
  obtain ⟨T12, h12, X12, e12, W12, st12⟩ := putF X10 hx hZ hown (host := "") (Or.inl (hw _ (oG (i := 74) rfl))) Via.refl e10 Ff_9 Ee_11 (Or.inl (hw _ (oG (i := 75) rfl))) (hw _ (oG (i := 27) rfl)) (ty := .int) (by decide) rfl rfl (g := (mkF m 80 #[.val (.ref o0), .val (.ref o1), .val (.ref o2), .val (.long q3), .second, .val (.long q4), .second, .val (.long q5), .second, .val (.long (own_kl LL)), .second, .unset] [(.int (ss + ((own_kl LL).toInt32))), (.ref o0)])) rfl rfl (hb hby d6_80)
  have Fw12 := Fld.same W12 Ff_9
  have N12 := Fr.snoc X12 N7 g_o0
  have Ff_13 : Fld Z h12 o0 "com/example/tavola/tavola/profile/RowBatch" "count" "I" (.int (0:Int32)) := ((Fi2.keep K7q (ninS ne_8 nin0)).other W12 (Or.inr (slot_ne (Or.inl (hw _ (oG (i := 86) rfl))) (Or.inl (hw _ (oG (i := 75) rfl))) (by decide) (t := .int) (t' := .int) (by decide) (by decide))))
  obtain ⟨T14, X14, e14, st14⟩ := getF X12 hx hZ hown (host := "") (Or.inl (hw _ (oG (i := 85) rfl))) Via.refl e12 Ff_13 (g := (mkF m 85 #[.val (.ref o0), .val (.ref o1), .val (.ref o2), .val (.long q3), .second, .val (.long q4), .second, .val (.long q5), .second, .val (.long (own_kl LL)), .second, .unset] [(.ref o0), (.ref o0)])) rfl rfl (hb hby d6_85)
  have Ee_15 : Exa Z h12 o0 "com/example/tavola/tavola/profile/RowBatch" := (Ee_11.wr W12)
  obtain ⟨T16, h16, X16, e16, W16, st16⟩ := putF X14 hx hZ hown (host := "") (Or.inl (hw _ (oG (i := 85) rfl))) Via.refl e14 Ff_13 Ee_15 (Or.inl (hw _ (oG (i := 86) rfl))) (hw _ (oG (i := 27) rfl)) (ty := .int) (by decide) rfl rfl (g := (mkF m 91 #[.val (.ref o0), .val (.ref o1), .val (.ref o2), .val (.long q3), .second, .val (.long q4), .second, .val (.long q5), .second, .val (.long (own_kl LL)), .second, .unset] [(.int (1:Int32)), (.ref o0), (.int (0:Int32))])) rfl rfl (hb hby d6_91)
  have Fw16 := Fld.same W16 Ff_13
  have N16 := Fr.snoc X16 N12 g_o0
  have Ff_17 : Fld Z h16 o0 "com/example/tavola/tavola/profile/RowBatch" "keyEnds" "[I" (.ref be) := (((Fa1.keep K7q (ninS ne_8 nin0)).other W12 (Or.inr (slot_ne (Or.inr (hw _ (oG (i := 37) rfl))) (Or.inl (hw _ (oG (i := 75) rfl))) (by decide) (t := (.array .int)) (t' := .int) (by decide) (by decide)))).other W16 (Or.inr (slot_ne (Or.inr (hw _ (oG (i := 37) rfl))) (Or.inl (hw _ (oG (i := 86) rfl))) (by decide) (t := (.array .int)) (t' := .int) (by decide) (by decide))))
  obtain ⟨T18, X18, e18, st18⟩ := getF X16 hx hZ hown (host := "") (Or.inl (hw _ (oG (i := 36) rfl))) Via.refl e16 Ff_17 (g := (mkF m 97 #[.val (.ref o0), .val (.ref o1), .val (.ref o2), .val (.long q3), .second, .val (.long q4), .second, .val (.long q5), .second, .val (.long (own_kl LL)), .second, .val (.int (0:Int32))] [(.ref o0)])) rfl rfl (hb hby d6_97)
  have Ff_19 : Fld Z h16 o0 "com/example/tavola/tavola/profile/RowBatch" "keysLength" "I" (.int (ss + ((own_kl LL).toInt32))) := (Fw12.other W16 (Or.inr (slot_ne (Or.inl (hw _ (oG (i := 75) rfl))) (Or.inl (hw _ (oG (i := 86) rfl))) (by decide) (t := .int) (t' := .int) (by decide) (by decide))))
  obtain ⟨T20, X20, e20, st20⟩ := getF X18 hx hZ hown (host := "") (Or.inl (hw _ (oG (i := 74) rfl))) Via.refl e18 Ff_19 (g := (mkF m 103 #[.val (.ref o0), .val (.ref o1), .val (.ref o2), .val (.long q3), .second, .val (.long q4), .second, .val (.long q5), .second, .val (.long (own_kl LL)), .second, .val (.int (0:Int32))] [(.ref o0), (.int (0:Int32)), (.ref be)])) rfl rfl (hb hby d6_103)
  have ne_21 : be ≠ bk := by omega
  have ne_22 : be ≠ o0 := by omega
  have Va_23 : Arv Z h16 be ke .int (1024:Int32) [(.int u0), (.int u1), (.int u2)] (.int (0:Int32)) := (((Va1.keep K7q (ninS ne_21 nin0)).other W12 ne_22).other W16 ne_22)
  obtain ⟨cl24, Ar24, q24, S24, N24', H24, G24⟩ := id Va_23
  have hin24 : ¬ ((0:Int32) < 0 ∨ cl24.slots.size ≤ ((0:Int32)).toNatClampNeg) := inb_of S24 ⟨by decide, by decide⟩
  obtain ⟨T25, h25, X25, e25, W25, st25⟩ := stI X20 hx hZ e20 Ar24 (j := (0:Int32)) hin24 (g := (mkF m 106 #[.val (.ref o0), .val (.ref o1), .val (.ref o2), .val (.long q3), .second, .val (.long q4), .second, .val (.long q5), .second, .val (.long (own_kl LL)), .second, .val (.int (0:Int32))] [(.int (ss + ((own_kl LL).toInt32))), (.int (0:Int32)), (.ref be)])) rfl rfl (hb hby d6_106)
  have Vs25 : Arv Z h25 be ke .int (1024:Int32) [(.int (ss + ((own_kl LL).toInt32))), (.int u1), (.int u2)] (.int (0:Int32)) := Arv.set Ar24 q24 S24 N24' H24 G24 rfl W25 0 rfl (Nat.le_of_ble_eq_true rfl)
  have N25 := Fr.snoc X25 N16 g_be
  have Ff_26 : Fld Z h25 o0 "com/example/tavola/tavola/profile/RowBatch" "hashes" "[I" (.ref bh) := ((((Fa2.keep K7q (ninS ne_8 nin0)).other W12 (Or.inr (slot_ne (Or.inr (hw _ (oG (i := 39) rfl))) (Or.inl (hw _ (oG (i := 75) rfl))) (by decide) (t := (.array .int)) (t' := .int) (by decide) (by decide)))).other W16 (Or.inr (slot_ne (Or.inr (hw _ (oG (i := 39) rfl))) (Or.inl (hw _ (oG (i := 86) rfl))) (by decide) (t := (.array .int)) (t' := .int) (by decide) (by decide)))).other W25 (Or.inl (Ne.symm ne_22)))
  obtain ⟨T27, X27, e27, st27⟩ := getF X25 hx hZ hown (host := "") (Or.inl (hw _ (oG (i := 38) rfl))) Via.refl e25 Ff_26 (g := (mkF m 108 #[.val (.ref o0), .val (.ref o1), .val (.ref o2), .val (.long q3), .second, .val (.long q4), .second, .val (.long q5), .second, .val (.long (own_kl LL)), .second, .val (.int (0:Int32))] [(.ref o0)])) rfl rfl (hb hby d6_108)
  have Zz_29 : n0 ≤ h25.size := (Nat.le_trans (Nat.le_trans (Nat.le_trans (Nat.le_trans Z0 K7q.1) (Keep.of_wr W12).1) (Keep.of_wr W16).1) (Keep.of_wr W25).1)
  have Ee_30 : Exa Z h25 o1 "com/example/tavola/tavola/profile/CsvReader" := ((((E_o1.keep K7q).wr W12).wr W16).wr W25)
  have ne_31 : o1 ≠ bk := by omega
  have ne_32 : o1 ≠ o0 := by omega
  have ne_33 : o1 ≠ be := by omega
  have Ff_34 : Fld Z h25 o1 "com/example/tavola/tavola/profile/CsvReader" "ends" "[I" (.ref bn) := ((((F_ends.keep K7q (ninS ne_31 nin0)).other W12 (Or.inl ne_32)).other W16 (Or.inl ne_32)).other W25 (Or.inl ne_33))
  have ne_35 : bn ≠ bk := by omega
  have ne_36 : bn ≠ o0 := by omega
  have ne_37 : bn ≠ be := by omega
  have Va_38 : Arv Z h25 bn kn .int (16:Int32) [] (.int (0:Int32)) := ((((V_bn.keep K7q (ninS ne_35 nin0)).other W12 ne_36).other W16 ne_36).other W25 ne_37)
  have ne_39 : o2 ≠ bk := by omega
  have ne_40 : o2 ≠ o0 := by omega
  have ne_41 : o2 ≠ be := by omega
  have Va_42 : Arv Z h25 o2 k1 .int LL [] (.int (0:Int32)) := ((((V_o2.keep K7q (ninS ne_39 nin0)).other W12 ne_40).other W16 ne_40).other W25 ne_41)
  obtain ⟨cq28, kq28, q28a, q28b, q28c⟩ := isOf hZ e27 (Ee_30)
  obtain ⟨_, _, ⟨T28, L28, k28, n28⟩, -, X28, ⟨Lc28, hQ28, l28, y28, z28⟩, st28⟩ := X27.virtualBack hx (y := (⟨"com/example/tavola/tavola/profile/CsvReader", "keyHash", "([I)I"⟩ : MethodName)) (z := (⟨"com/example/tavola/tavola/profile/CsvReader", "keyHash", "([I)I"⟩ : MethodName)) hown (mvT hZ (hw _ (oG (i := 87) rfl))) (mvT hZ (hw _ (oG (i := 88) rfl))) (notFace_of_selects (args := #[]) (mvT hZ (hw _ (oG (i := 90) rfl)))) (mvT hZ (hw _ (oG (i := 90) rfl))) (mvT hZ (hw _ (oG (i := 89) rfl))) (by decide) (backOf (W := 2) (rm10 l Z aw hw [] o1 o2 bn kn k1 LL h25 n0 Zz_29 Ee_30 Ff_34 Va_38 Va_42 hL) hZ (hw _ (oG (i := 91) rfl)) (hw _ (oG (i := 4) rfl)) (by decide) (by decide)) q28a q28c (g := (mkF m 115 #[.val (.ref o0), .val (.ref o1), .val (.ref o2), .val (.long q3), .second, .val (.long q4), .second, .val (.long q5), .second, .val (.long (own_kl LL)), .second, .val (.int (0:Int32))] [(.ref o2), (.ref o1), (.int (0:Int32)), (.ref bh)])) rfl (by rw [hml]; rfl) (Steps.refl _) (argsL := [(.ref o2)]) (rest := [(.int (0:Int32)), (.ref bh)]) (lenOf pd_rm6_0_2 rfl) rfl (by show 2 * 0 + _ ≤ _; exact Nat.le_of_eq rfl) (hb hby d6_115) (fun _ _ => ⟨rfl, e27, (by decide : 0 + 0 ≤ _), (by decide : 0 + 0 ≤ _)⟩)
  dsimp only [Pt.U, Pt.locs, Pt.cells, Pt.slots] at X28 l28 y28 z28 st28 hQ28
  subst l28 y28 z28
  obtain ⟨rfl, N28q, e28q⟩ := hQ28
  have N28 := Fr.app N25 N28q
  have ne_43 : bh ≠ bk := by omega
  have ne_44 : bh ≠ o0 := by omega
  have ne_45 : bh ≠ be := by omega
  have Aa_46 : own_Arf Z h25 bh kh .int (1024:Int32) (.int (0:Int32)) := (own_arfO (own_arfO (own_arfO (own_arfK Va2 K7q (ninS ne_43 nin0)) W12 ne_44) W16 ne_44) W25 ne_45)
  obtain ⟨vs47, hl47, cl47, Ar47, q47, S47, N47', H47, G47⟩ := id Aa_46
  have hin47 : ¬ ((0:Int32) < 0 ∨ cl47.slots.size ≤ ((0:Int32)).toNatClampNeg) := inb_of S47 ⟨by decide, by decide⟩
  obtain ⟨T48, h48, X48, e48, W48, st48⟩ := stI X28 hx hZ e28q Ar47 (j := (0:Int32)) hin47 (g := (mkF m 118 #[.val (.ref o0), .val (.ref o1), .val (.ref o2), .val (.long q3), .second, .val (.long q4), .second, .val (.long q5), .second, .val (.long (own_kl LL)), .second, .val (.int (0:Int32))] [(.int (0:Int32)), (.int (0:Int32)), (.ref bh)])) rfl rfl (hb hby d6_118)
  have As48 : own_Arf Z h48 bh kh .int (1024:Int32) (.int (0:Int32)) := own_arfW hl47 Ar47 q47 S47 N47' H47 G47 rfl W48 hin47
  have N48 := Fr.snoc X48 N28 g_bh
  have Ff_49 : Fld Z h48 o0 "com/example/tavola/tavola/profile/RowBatch" "keyBytes" "[J" (.ref bf) := (((((Fa3.keep K7q (ninS ne_8 nin0)).other W12 (Or.inr (slot_ne (Or.inr (hw _ (oG (i := 42) rfl))) (Or.inl (hw _ (oG (i := 75) rfl))) (by decide) (t := (.array .long)) (t' := .int) (by decide) (by decide)))).other W16 (Or.inr (slot_ne (Or.inr (hw _ (oG (i := 42) rfl))) (Or.inl (hw _ (oG (i := 86) rfl))) (by decide) (t := (.array .long)) (t' := .int) (by decide) (by decide)))).other W25 (Or.inl (Ne.symm ne_22))).other W48 (Or.inl (Ne.symm ne_44)))
  obtain ⟨T50, X50, e50, st50⟩ := getF X48 hx hZ hown (host := "") (Or.inl (hw _ (oG (i := 41) rfl))) Via.refl e48 Ff_49 (g := (mkF m 120 #[.val (.ref o0), .val (.ref o1), .val (.ref o2), .val (.long q3), .second, .val (.long q4), .second, .val (.long q5), .second, .val (.long (own_kl LL)), .second, .val (.int (0:Int32))] [(.ref o0)])) rfl rfl (hb hby d6_120)
  have ne_51 : bf ≠ bk := by omega
  have ne_52 : bf ≠ o0 := by omega
  have ne_53 : bf ≠ be := by omega
  have ne_54 : bf ≠ bh := by omega
  have Aa_55 : own_Arf Z h48 bf kf .long (1024:Int32) (.long (0:Int64)) := (own_arfO (own_arfO (own_arfO (own_arfO (own_arfK Va3 K7q (ninS ne_51 nin0)) W12 ne_52) W16 ne_52) W25 ne_53) W48 ne_54)
  obtain ⟨vs56, hl56, cl56, Ar56, q56, S56, N56', H56, G56⟩ := id Aa_55
  have hin56 : ¬ ((0:Int32) < 0 ∨ cl56.slots.size ≤ ((0:Int32)).toNatClampNeg) := inb_of S56 ⟨by decide, by decide⟩
  obtain ⟨T57, h57, X57, e57, W57, st57⟩ := stJ X50 hx hZ e50 Ar56 (j := (0:Int32)) hin56 (g := (mkF m 126 #[.val (.ref o0), .val (.ref o1), .val (.ref o2), .val (.long q3), .second, .val (.long q4), .second, .val (.long q5), .second, .val (.long (own_kl LL)), .second, .val (.int (0:Int32))] [(.long q3), (.int (0:Int32)), (.ref bf)])) rfl rfl (hb hby d6_126)
  have As57 : own_Arf Z h57 bf kf .long (1024:Int32) (.long (0:Int64)) := own_arfW hl56 Ar56 q56 S56 N56' H56 G56 rfl W57 hin56
  have N57 := Fr.snoc X57 N48 g_bf
  have Ff_58 : Fld Z h57 o0 "com/example/tavola/tavola/profile/RowBatch" "rowBytes" "[J" (.ref bg) := ((((((Fa4.keep K7q (ninS ne_8 nin0)).other W12 (Or.inr (slot_ne (Or.inr (hw _ (oG (i := 44) rfl))) (Or.inl (hw _ (oG (i := 75) rfl))) (by decide) (t := (.array .long)) (t' := .int) (by decide) (by decide)))).other W16 (Or.inr (slot_ne (Or.inr (hw _ (oG (i := 44) rfl))) (Or.inl (hw _ (oG (i := 86) rfl))) (by decide) (t := (.array .long)) (t' := .int) (by decide) (by decide)))).other W25 (Or.inl (Ne.symm ne_22))).other W48 (Or.inl (Ne.symm ne_44))).other W57 (Or.inl (Ne.symm ne_52)))
  obtain ⟨T59, X59, e59, st59⟩ := getF X57 hx hZ hown (host := "") (Or.inl (hw _ (oG (i := 43) rfl))) Via.refl e57 Ff_58 (g := (mkF m 128 #[.val (.ref o0), .val (.ref o1), .val (.ref o2), .val (.long q3), .second, .val (.long q4), .second, .val (.long q5), .second, .val (.long (own_kl LL)), .second, .val (.int (0:Int32))] [(.ref o0)])) rfl rfl (hb hby d6_128)
  have ne_60 : bg ≠ bk := by omega
  have ne_61 : bg ≠ o0 := by omega
  have ne_62 : bg ≠ be := by omega
  have ne_63 : bg ≠ bh := by omega
  have ne_64 : bg ≠ bf := by omega
  have Aa_65 : own_Arf Z h57 bg kg .long (1024:Int32) (.long (0:Int64)) := (own_arfO (own_arfO (own_arfO (own_arfO (own_arfO (own_arfK Va4 K7q (ninS ne_60 nin0)) W12 ne_61) W16 ne_61) W25 ne_62) W48 ne_63) W57 ne_64)
  obtain ⟨vs66, hl66, cl66, Ar66, q66, S66, N66', H66, G66⟩ := id Aa_65
  have hin66 : ¬ ((0:Int32) < 0 ∨ cl66.slots.size ≤ ((0:Int32)).toNatClampNeg) := inb_of S66 ⟨by decide, by decide⟩
  obtain ⟨T67, h67, X67, e67, W67, st67⟩ := stJ X59 hx hZ e59 Ar66 (j := (0:Int32)) hin66 (g := (mkF m 135 #[.val (.ref o0), .val (.ref o1), .val (.ref o2), .val (.long q3), .second, .val (.long q4), .second, .val (.long q5), .second, .val (.long (own_kl LL)), .second, .val (.int (0:Int32))] [(.long q4), (.int (0:Int32)), (.ref bg)])) rfl rfl (hb hby d6_135)
  have As67 : own_Arf Z h67 bg kg .long (1024:Int32) (.long (0:Int64)) := own_arfW hl66 Ar66 q66 S66 N66' H66 G66 rfl W67 hin66
  have N67 := Fr.snoc X67 N57 g_bg
  have Ff_68 : Fld Z h67 o0 "com/example/tavola/tavola/profile/RowBatch" "regularValues" "[J" (.ref bx) := (((((((Fa5.keep K7q (ninS ne_8 nin0)).other W12 (Or.inr (slot_ne (Or.inr (hw _ (oG (i := 46) rfl))) (Or.inl (hw _ (oG (i := 75) rfl))) (by decide) (t := (.array .long)) (t' := .int) (by decide) (by decide)))).other W16 (Or.inr (slot_ne (Or.inr (hw _ (oG (i := 46) rfl))) (Or.inl (hw _ (oG (i := 86) rfl))) (by decide) (t := (.array .long)) (t' := .int) (by decide) (by decide)))).other W25 (Or.inl (Ne.symm ne_22))).other W48 (Or.inl (Ne.symm ne_44))).other W57 (Or.inl (Ne.symm ne_52))).other W67 (Or.inl (Ne.symm ne_61)))
  obtain ⟨T69, X69, e69, st69⟩ := getF X67 hx hZ hown (host := "") (Or.inl (hw _ (oG (i := 45) rfl))) Via.refl e67 Ff_68 (g := (mkF m 137 #[.val (.ref o0), .val (.ref o1), .val (.ref o2), .val (.long q3), .second, .val (.long q4), .second, .val (.long q5), .second, .val (.long (own_kl LL)), .second, .val (.int (0:Int32))] [(.ref o0)])) rfl rfl (hb hby d6_137)
  have ne_70 : bx ≠ bk := by omega
  have ne_71 : bx ≠ o0 := by omega
  have ne_72 : bx ≠ be := by omega
  have ne_73 : bx ≠ bh := by omega
  have ne_74 : bx ≠ bf := by omega
  have ne_75 : bx ≠ bg := by omega
  have Aa_76 : own_Arf Z h67 bx kx .long (1024:Int32) (.long (0:Int64)) := (own_arfO (own_arfO (own_arfO (own_arfO (own_arfO (own_arfO (own_arfK Va5 K7q (ninS ne_70 nin0)) W12 ne_71) W16 ne_71) W25 ne_72) W48 ne_73) W57 ne_74) W67 ne_75)
  obtain ⟨vs77, hl77, cl77, Ar77, q77, S77, N77', H77, G77⟩ := id Aa_76
  have hin77 : ¬ ((0:Int32) < 0 ∨ cl77.slots.size ≤ ((0:Int32)).toNatClampNeg) := inb_of S77 ⟨by decide, by decide⟩
  obtain ⟨T78, h78, X78, e78, W78, st78⟩ := stJ X69 hx hZ e69 Ar77 (j := (0:Int32)) hin77 (g := (mkF m 144 #[.val (.ref o0), .val (.ref o1), .val (.ref o2), .val (.long q3), .second, .val (.long q4), .second, .val (.long q5), .second, .val (.long (own_kl LL)), .second, .val (.int (0:Int32))] [(.long q5), (.int (0:Int32)), (.ref bx)])) rfl rfl (hb hby d6_144)
  have As78 : own_Arf Z h78 bx kx .long (1024:Int32) (.long (0:Int64)) := own_arfW hl77 Ar77 q77 S77 N77' H77 G77 rfl W78 hin77
  have N78 := Fr.snoc X78 N67 g_bx
  have Ff_79 : Fld Z h78 o0 "com/example/tavola/tavola/profile/RowBatch" "statics" "[I" (.ref bs) := ((((((((Fa6.keep K7q (ninS ne_8 nin0)).other W12 (Or.inr (slot_ne (Or.inr (hw _ (oG (i := 50) rfl))) (Or.inl (hw _ (oG (i := 75) rfl))) (by decide) (t := (.array .int)) (t' := .int) (by decide) (by decide)))).other W16 (Or.inr (slot_ne (Or.inr (hw _ (oG (i := 50) rfl))) (Or.inl (hw _ (oG (i := 86) rfl))) (by decide) (t := (.array .int)) (t' := .int) (by decide) (by decide)))).other W25 (Or.inl (Ne.symm ne_22))).other W48 (Or.inl (Ne.symm ne_44))).other W57 (Or.inl (Ne.symm ne_52))).other W67 (Or.inl (Ne.symm ne_61))).other W78 (Or.inl (Ne.symm ne_71)))
  obtain ⟨T80, X80, e80, st80⟩ := getF X78 hx hZ hown (host := "") (Or.inl (hw _ (oG (i := 49) rfl))) Via.refl e78 Ff_79 (g := (mkF m 146 #[.val (.ref o0), .val (.ref o1), .val (.ref o2), .val (.long q3), .second, .val (.long q4), .second, .val (.long q5), .second, .val (.long (own_kl LL)), .second, .val (.int (0:Int32))] [(.ref o0)])) rfl rfl (hb hby d6_146)
  have Ff_81 : Fld Z h78 o0 "com/example/tavola/tavola/profile/RowBatch" "staticColumns" "I" (.int sc) := ((((((((Fi0.keep K7q (ninS ne_8 nin0)).other W12 (Or.inr (slot_ne (Or.inr (hw _ (oG (i := 48) rfl))) (Or.inl (hw _ (oG (i := 75) rfl))) (by decide) (t := .int) (t' := .int) (by decide) (by decide)))).other W16 (Or.inr (slot_ne (Or.inr (hw _ (oG (i := 48) rfl))) (Or.inl (hw _ (oG (i := 86) rfl))) (by decide) (t := .int) (t' := .int) (by decide) (by decide)))).other W25 (Or.inl (Ne.symm ne_22))).other W48 (Or.inl (Ne.symm ne_44))).other W57 (Or.inl (Ne.symm ne_52))).other W67 (Or.inl (Ne.symm ne_61))).other W78 (Or.inl (Ne.symm ne_71)))
  obtain ⟨T82, X82, e82, st82⟩ := getF X80 hx hZ hown (host := "") (Or.inl (hw _ (oG (i := 47) rfl))) Via.refl e80 Ff_81 (g := (mkF m 152 #[.val (.ref o0), .val (.ref o1), .val (.ref o2), .val (.long q3), .second, .val (.long q4), .second, .val (.long q5), .second, .val (.long (own_kl LL)), .second, .val (.int (0:Int32))] [(.ref o0), (.int (0:Int32)), (.ref bs)])) rfl rfl (hb hby d6_152)
  obtain ⟨T83, X83, e83, st83⟩ := getF X82 hx hZ hown (host := "") (Or.inl (hw _ (oG (i := 47) rfl))) Via.refl e82 Ff_81 (g := (mkF m 161 #[.val (.ref o0), .val (.ref o1), .val (.ref o2), .val (.long q3), .second, .val (.long q4), .second, .val (.long q5), .second, .val (.long (own_kl LL)), .second, .val (.int (0:Int32))] [(.ref o0), (.int (1:Int32)), (.int ((0:Int32) * sc)), (.ref bs)])) rfl rfl (hb hby d6_161)
  have hfl := own_fill (0:Int32) (1:Int32) (by decide) hsc
  have Zz_85 : n0 ≤ h78.size := (Nat.le_trans (Nat.le_trans (Nat.le_trans (Nat.le_trans Zz_29 (Keep.of_wr W48).1) (Keep.of_wr W57).1) (Keep.of_wr W67).1) (Keep.of_wr W78).1)
  have ne_86 : bs ≠ bk := by omega
  have ne_87 : bs ≠ o0 := by omega
  have ne_88 : bs ≠ be := by omega
  have ne_89 : bs ≠ bh := by omega
  have ne_90 : bs ≠ bf := by omega
  have ne_91 : bs ≠ bg := by omega
  have ne_92 : bs ≠ bx := by omega
  have Aa_93 : own_Arf Z h78 bs ks .int ((1024:Int32) * sc) (.int (0:Int32)) := (own_arfO (own_arfO (own_arfO (own_arfO (own_arfO (own_arfO (own_arfO (own_arfK Va6 K7q (ninS ne_86 nin0)) W12 ne_87) W16 ne_87) W25 ne_88) W48 ne_89) W57 ne_90) W67 ne_91) W78 ne_92)
  obtain ⟨_, _, ⟨T84, L84, k84, n84⟩, -, X84, ⟨Lc84, hQ84, l84, y84, z84⟩, st84⟩ := Jvm.LawKit.callS X83 hx (y := (⟨"java/util/Arrays", "fill", "([IIII)V"⟩ : MethodName)) hown (mvT hZ (hw _ (oG (i := 92) rfl))) (mvT hZ (hw _ (oG (i := 93) rfl))) (mvT hZ (hw _ (oG (i := 94) rfl))) (mvT hZ (hw _ (oG (i := 95) rfl))) (by decide) (backOf (W := 0) (rm11 l Z aw hw [] bs ((0:Int32) * sc) ((1:Int32) * sc) (-1:Int32) ks ((1024:Int32) * sc) h78 n0 Zz_85 Aa_93 g_bs hfl.1 hfl.2.1 hfl.2.2.1 hfl.2.2.2) hZ (hw _ (oG (i := 95) rfl)) (hw _ (oG (i := 94) rfl)) (by decide) (by decide)) (g := (mkF m 166 #[.val (.ref o0), .val (.ref o1), .val (.ref o2), .val (.long q3), .second, .val (.long q4), .second, .val (.long q5), .second, .val (.long (own_kl LL)), .second, .val (.int (0:Int32))] [(.int (-1:Int32)), (.int ((1:Int32) * sc)), (.int ((0:Int32) * sc)), (.ref bs)])) rfl (by rw [hml]; rfl) (argsL := [(.ref bs), (.int ((0:Int32) * sc)), (.int ((1:Int32) * sc)), (.int (-1:Int32))]) (rest := []) (lenOf pd_rm6_0_3 rfl) rfl (by show 2 * 0 + _ ≤ _; exact Nat.le_of_eq rfl) (hb hby d6_166) (fun _ _ => ⟨rfl, e83, (by decide : 0 + 0 ≤ _), (by decide : 0 + 0 ≤ _)⟩)
  dsimp only [Pt.U, Pt.locs, Pt.cells, Pt.slots] at X84 l84 y84 z84 st84 hQ84
  subst l84 y84 z84
  obtain ⟨rfl, N84q, K84q, A84q⟩ := hQ84
  have N84 := Fr.app N78 N84q
  have Kk_94 : Keep h0 T84.heap [o0, bk, be, bh, bf, bg, bx, bs] := ((((((((((Keep.refl h0 [o0, bk, be, bh, bf, bg, bx, bs]).trans K7q (allS (Or.inl (oG (i := 1) rfl)) all0)).wr W12 (Or.inl (oG (i := 0) rfl))).wr W16 (Or.inl (oG (i := 0) rfl))).wr W25 (Or.inl (oG (i := 2) rfl))).wr W48 (Or.inl (oG (i := 3) rfl))).wr W57 (Or.inl (oG (i := 4) rfl))).wr W67 (Or.inl (oG (i := 5) rfl))).wr W78 (Or.inl (oG (i := 6) rfl))).trans K84q (allS (Or.inl (oG (i := 7) rfl)) all0))
  have Ff_95 : Fld Z T84.heap o0 "com/example/tavola/tavola/profile/RowBatch" "staticColumns" "I" (.int sc) := (Ff_81.keep K84q (ninS (Ne.symm ne_87) nin0))
  have Ff_96 : Fld Z T84.heap o0 "com/example/tavola/tavola/profile/RowBatch" "keysLength" "I" (.int (ss + ((own_kl LL).toInt32))) := ((((((Ff_19.other W25 (Or.inl (Ne.symm ne_22))).other W48 (Or.inl (Ne.symm ne_44))).other W57 (Or.inl (Ne.symm ne_52))).other W67 (Or.inl (Ne.symm ne_61))).other W78 (Or.inl (Ne.symm ne_71))).keep K84q (ninS (Ne.symm ne_87) nin0))
  have Ff_97 : Fld Z T84.heap o0 "com/example/tavola/tavola/profile/RowBatch" "count" "I" (.int (1:Int32)) := ((((((Fw16.other W25 (Or.inl (Ne.symm ne_22))).other W48 (Or.inl (Ne.symm ne_44))).other W57 (Or.inl (Ne.symm ne_52))).other W67 (Or.inl (Ne.symm ne_61))).other W78 (Or.inl (Ne.symm ne_71))).keep K84q (ninS (Ne.symm ne_87) nin0))
  have Ff_98 : Fld Z T84.heap o0 "com/example/tavola/tavola/profile/RowBatch" "keys" "[B" (.ref bk) := (((((((((Fa0.keep K7q (ninS ne_8 nin0)).other W12 (Or.inr (slot_ne (Or.inl (hw _ (oG (i := 35) rfl))) (Or.inl (hw _ (oG (i := 75) rfl))) (by decide) (t := (.array .byte)) (t' := .int) (by decide) (by decide)))).other W16 (Or.inr (slot_ne (Or.inl (hw _ (oG (i := 35) rfl))) (Or.inl (hw _ (oG (i := 86) rfl))) (by decide) (t := (.array .byte)) (t' := .int) (by decide) (by decide)))).other W25 (Or.inl (Ne.symm ne_22))).other W48 (Or.inl (Ne.symm ne_44))).other W57 (Or.inl (Ne.symm ne_52))).other W67 (Or.inl (Ne.symm ne_61))).other W78 (Or.inl (Ne.symm ne_71))).keep K84q (ninS (Ne.symm ne_87) nin0))
  have Ff_99 : Fld Z T84.heap o0 "com/example/tavola/tavola/profile/RowBatch" "keyEnds" "[I" (.ref be) := ((((((Ff_17.other W25 (Or.inl (Ne.symm ne_22))).other W48 (Or.inl (Ne.symm ne_44))).other W57 (Or.inl (Ne.symm ne_52))).other W67 (Or.inl (Ne.symm ne_61))).other W78 (Or.inl (Ne.symm ne_71))).keep K84q (ninS (Ne.symm ne_87) nin0))
  have Ff_100 : Fld Z T84.heap o0 "com/example/tavola/tavola/profile/RowBatch" "hashes" "[I" (.ref bh) := (((((Ff_26.other W48 (Or.inl (Ne.symm ne_44))).other W57 (Or.inl (Ne.symm ne_52))).other W67 (Or.inl (Ne.symm ne_61))).other W78 (Or.inl (Ne.symm ne_71))).keep K84q (ninS (Ne.symm ne_87) nin0))
  have Ff_101 : Fld Z T84.heap o0 "com/example/tavola/tavola/profile/RowBatch" "keyBytes" "[J" (.ref bf) := ((((Ff_49.other W57 (Or.inl (Ne.symm ne_52))).other W67 (Or.inl (Ne.symm ne_61))).other W78 (Or.inl (Ne.symm ne_71))).keep K84q (ninS (Ne.symm ne_87) nin0))
  have Ff_102 : Fld Z T84.heap o0 "com/example/tavola/tavola/profile/RowBatch" "rowBytes" "[J" (.ref bg) := (((Ff_58.other W67 (Or.inl (Ne.symm ne_61))).other W78 (Or.inl (Ne.symm ne_71))).keep K84q (ninS (Ne.symm ne_87) nin0))
  have Ff_103 : Fld Z T84.heap o0 "com/example/tavola/tavola/profile/RowBatch" "regularValues" "[J" (.ref bx) := ((Ff_68.other W78 (Or.inl (Ne.symm ne_71))).keep K84q (ninS (Ne.symm ne_87) nin0))
  have Ff_104 : Fld Z T84.heap o0 "com/example/tavola/tavola/profile/RowBatch" "statics" "[I" (.ref bs) := (Ff_79.keep K84q (ninS (Ne.symm ne_87) nin0))
  have Aa_105 : own_Arf Z T84.heap bk kk .byte (65536:Int32) (.int (0:Int32)) := (own_arfK (own_arfO (own_arfO (own_arfO (own_arfO (own_arfO (own_arfO (own_arfO A7q W12 (Ne.symm ne_8)) W16 (Ne.symm ne_8)) W25 (Ne.symm ne_21)) W48 (Ne.symm ne_43)) W57 (Ne.symm ne_51)) W67 (Ne.symm ne_60)) W78 (Ne.symm ne_70)) K84q (ninS (Ne.symm ne_86) nin0))
  have Va_106 : Arv Z T84.heap be ke .int (1024:Int32) [(.int (ss + ((own_kl LL).toInt32))), (.int u1), (.int u2)] (.int (0:Int32)) := (((((Vs25.other W48 (Ne.symm ne_45)).other W57 (Ne.symm ne_53)).other W67 (Ne.symm ne_62)).other W78 (Ne.symm ne_72)).keep K84q (ninS (Ne.symm ne_88) nin0))
  have Aa_107 : own_Arf Z T84.heap bh kh .int (1024:Int32) (.int (0:Int32)) := (own_arfK (own_arfO (own_arfO (own_arfO As48 W57 (Ne.symm ne_54)) W67 (Ne.symm ne_63)) W78 (Ne.symm ne_73)) K84q (ninS (Ne.symm ne_89) nin0))
  have Aa_108 : own_Arf Z T84.heap bf kf .long (1024:Int32) (.long (0:Int64)) := (own_arfK (own_arfO (own_arfO As57 W67 (Ne.symm ne_64)) W78 (Ne.symm ne_74)) K84q (ninS (Ne.symm ne_90) nin0))
  have Aa_109 : own_Arf Z T84.heap bg kg .long (1024:Int32) (.long (0:Int64)) := (own_arfK (own_arfO As67 W78 (Ne.symm ne_75)) K84q (ninS (Ne.symm ne_91) nin0))
  have Aa_110 : own_Arf Z T84.heap bx kx .long (1024:Int32) (.long (0:Int64)) := (own_arfK As78 K84q (ninS (Ne.symm ne_92) nin0))
  obtain ⟨fs, hr, hrun, hended, hW, hsame⟩ := X84.leave (v := some (.int (0:Int32))) (fun h => by rw [Bd.returns] at h; cases h)
  refine ⟨_, _, pre0 _ ?_, hrun, hended, _, _, rfl, ?_, ⟨_, rfl⟩, hW, hsame.mono (by decide) (by decide)⟩
  · show Steps p.tables e below (s₁.setTop (mkF m 0 #[.val (.ref o0), .val (.ref o1), .val (.ref o2), .val (.long q3), .second, .val (.long q4), .second, .val (.long q5), .second, .unset, .unset, .unset] [])) _
    refine XS.aloadN X0.here hx rfl (hb hby d6_0) rfl rfl ?_
    refine XS.aloadN X0.here hx rfl (hb hby d6_1) rfl rfl ?_
    show Steps p.tables e below (s₁.setTop (mkF m 2 #[.val (.ref o0), .val (.ref o1), .val (.ref o2), .val (.long q3), .second, .val (.long q4), .second, .val (.long q5), .second, .unset, .unset, .unset] [(.ref o2), (.ref o1)])) _
    refine st1.trans ?_
    show Steps p.tables e below (T1.setTop (mkF m 5 #[.val (.ref o0), .val (.ref o1), .val (.ref o2), .val (.long q3), .second, .val (.long q4), .second, .val (.long q5), .second, .unset, .unset, .unset] [(.long (own_kl LL))])) _
    refine XS.lstore X1.here hx rfl (hb hby d6_5) rfl (l' := #[.val (.ref o0), .val (.ref o1), .val (.ref o2), .val (.long q3), .second, .val (.long q4), .second, .val (.long q5), .second, .val (.long (own_kl LL)), .second, .unset]) rfl ?_
    refine XS.aloadN X1.here hx rfl (hb hby d6_7) rfl rfl ?_
    show Steps p.tables e below (T1.setTop (mkF m 8 #[.val (.ref o0), .val (.ref o1), .val (.ref o2), .val (.long q3), .second, .val (.long q4), .second, .val (.long q5), .second, .val (.long (own_kl LL)), .second, .unset] [(.ref o0)])) _
    refine st2 _ ?_
    show Steps p.tables e below (T2.setTop (mkF m 11 #[.val (.ref o0), .val (.ref o1), .val (.ref o2), .val (.long q3), .second, .val (.long q4), .second, .val (.long q5), .second, .val (.long (own_kl LL)), .second, .unset] [(.int ss)])) _
    refine XS.i2l X2.here hx rfl (hb hby d6_11) rfl ?_
    refine XS.lload X2.here hx rfl (hb hby d6_12) rfl ?_
    refine XS.ladd X2.here hx rfl (hb hby d6_14) rfl ?_
    refine XS.aloadN X2.here hx rfl (hb hby d6_15) rfl rfl ?_
    show Steps p.tables e below (T2.setTop (mkF m 16 #[.val (.ref o0), .val (.ref o1), .val (.ref o2), .val (.long q3), .second, .val (.long q4), .second, .val (.long q5), .second, .val (.long (own_kl LL)), .second, .unset] [(.ref o0), (.long ((ss.toInt64) + (own_kl LL)))])) _
    refine st3 _ ?_
    show Steps p.tables e below (T3.setTop (mkF m 19 #[.val (.ref o0), .val (.ref o1), .val (.ref o2), .val (.long q3), .second, .val (.long q4), .second, .val (.long q5), .second, .val (.long (own_kl LL)), .second, .unset] [(.ref bk), (.long ((ss.toInt64) + (own_kl LL)))])) _
    refine X3.arraylength hx (by rw [e3]; exact Ar4.1) (State.isArrayOf_alike hZ.alike Ar4.2.1) (g := (mkF m 19 #[.val (.ref o0), .val (.ref o1), .val (.ref o2), .val (.long q3), .second, .val (.long q4), .second, .val (.long q5), .second, .val (.long (own_kl LL)), .second, .unset] [(.ref bk), (.long ((ss.toInt64) + (own_kl LL)))])) rfl rfl (hb hby d6_19) _ ?_
    rw [len_of S4 N4']
    show Steps p.tables e below (T3.setTop (mkF m 20 #[.val (.ref o0), .val (.ref o1), .val (.ref o2), .val (.long q3), .second, .val (.long q4), .second, .val (.long q5), .second, .val (.long (own_kl LL)), .second, .unset] [(.int (65536:Int32)), (.long ((ss.toInt64) + (own_kl LL)))])) _
    refine XS.i2l X3.here hx rfl (hb hby d6_20) rfl ?_
    refine XS.lcmp X3.here hx rfl (hb hby d6_21) rfl ?_
    refine XS.ifYes X3.here hx rfl (pc0 := 22) (pc' := 58) rfl (hb hby d6_22) rfl ((if0 _ _).trans (flt (fun q => (own_b22 hp0 hp6 hL : ¬ (((65536:Int32).toInt64) < ((ss.toInt64) + (own_kl LL)))) ((lw_gt _ _).mp q))).2.2.2) (by decide) (by decide) ?_
    refine XS.aloadN X3.here hx rfl (hb hby d6_58) rfl rfl ?_
    refine XS.aloadN X3.here hx rfl (hb hby d6_59) rfl rfl ?_
    refine XS.aloadN X3.here hx rfl (hb hby d6_60) rfl rfl ?_
    show Steps p.tables e below (T3.setTop (mkF m 61 #[.val (.ref o0), .val (.ref o1), .val (.ref o2), .val (.long q3), .second, .val (.long q4), .second, .val (.long q5), .second, .val (.long (own_kl LL)), .second, .unset] [(.ref o0), (.ref o2), (.ref o1)])) _
    refine st5 _ ?_
    show Steps p.tables e below (T5.setTop (mkF m 64 #[.val (.ref o0), .val (.ref o1), .val (.ref o2), .val (.long q3), .second, .val (.long q4), .second, .val (.long q5), .second, .val (.long (own_kl LL)), .second, .unset] [(.ref bk), (.ref o2), (.ref o1)])) _
    refine XS.aloadN X5.here hx rfl (hb hby d6_64) rfl rfl ?_
    show Steps p.tables e below (T5.setTop (mkF m 65 #[.val (.ref o0), .val (.ref o1), .val (.ref o2), .val (.long q3), .second, .val (.long q4), .second, .val (.long q5), .second, .val (.long (own_kl LL)), .second, .unset] [(.ref o0), (.ref bk), (.ref o2), (.ref o1)])) _
    refine st6 _ ?_
    show Steps p.tables e below (T6.setTop (mkF m 68 #[.val (.ref o0), .val (.ref o1), .val (.ref o2), .val (.long q3), .second, .val (.long q4), .second, .val (.long q5), .second, .val (.long (own_kl LL)), .second, .unset] [(.int ss), (.ref bk), (.ref o2), (.ref o1)])) _
    refine st7.trans ?_
    show Steps p.tables e below (T7.setTop (mkF m 71 #[.val (.ref o0), .val (.ref o1), .val (.ref o2), .val (.long q3), .second, .val (.long q4), .second, .val (.long q5), .second, .val (.long (own_kl LL)), .second, .unset] [])) _
    refine XS.aloadN X7.here hx rfl (hb hby d6_71) rfl rfl ?_
    refine XS.dup X7.here hx rfl (hb hby d6_72) rfl rfl ?_
    show Steps p.tables e below (T7.setTop (mkF m 73 #[.val (.ref o0), .val (.ref o1), .val (.ref o2), .val (.long q3), .second, .val (.long q4), .second, .val (.long q5), .second, .val (.long (own_kl LL)), .second, .unset] [(.ref o0), (.ref o0)])) _
    refine st10 _ ?_
    show Steps p.tables e below (T10.setTop (mkF m 76 #[.val (.ref o0), .val (.ref o1), .val (.ref o2), .val (.long q3), .second, .val (.long q4), .second, .val (.long q5), .second, .val (.long (own_kl LL)), .second, .unset] [(.int ss), (.ref o0)])) _
    refine XS.lload X10.here hx rfl (hb hby d6_76) rfl ?_
    refine XS.l2i X10.here hx rfl (hb hby d6_78) rfl ?_
    refine XS.iadd X10.here hx rfl (hb hby d6_79) rfl ?_
    show Steps p.tables e below (T10.setTop (mkF m 80 #[.val (.ref o0), .val (.ref o1), .val (.ref o2), .val (.long q3), .second, .val (.long q4), .second, .val (.long q5), .second, .val (.long (own_kl LL)), .second, .unset] [(.int (ss + ((own_kl LL).toInt32))), (.ref o0)])) _
    refine st12 _ ?_
    show Steps p.tables e below (T12.setTop (mkF m 83 #[.val (.ref o0), .val (.ref o1), .val (.ref o2), .val (.long q3), .second, .val (.long q4), .second, .val (.long q5), .second, .val (.long (own_kl LL)), .second, .unset] [])) _
    refine XS.aloadN X12.here hx rfl (hb hby d6_83) rfl rfl ?_
    refine XS.dup X12.here hx rfl (hb hby d6_84) rfl rfl ?_
    show Steps p.tables e below (T12.setTop (mkF m 85 #[.val (.ref o0), .val (.ref o1), .val (.ref o2), .val (.long q3), .second, .val (.long q4), .second, .val (.long q5), .second, .val (.long (own_kl LL)), .second, .unset] [(.ref o0), (.ref o0)])) _
    refine st14 _ ?_
    show Steps p.tables e below (T14.setTop (mkF m 88 #[.val (.ref o0), .val (.ref o1), .val (.ref o2), .val (.long q3), .second, .val (.long q4), .second, .val (.long q5), .second, .val (.long (own_kl LL)), .second, .unset] [(.int (0:Int32)), (.ref o0)])) _
    refine XS.dupX1 X14.here hx rfl (hb hby d6_88) rfl rfl rfl ?_
    refine XS.iconst X14.here hx rfl (hb hby d6_89) ?_
    show Steps p.tables e below (T14.setTop (mkF m 90 #[.val (.ref o0), .val (.ref o1), .val (.ref o2), .val (.long q3), .second, .val (.long q4), .second, .val (.long q5), .second, .val (.long (own_kl LL)), .second, .unset] [(.int (1:Int32)), (.int (0:Int32)), (.ref o0), (.int (0:Int32))])) _
    refine XS.iadd X14.here hx rfl (hb hby d6_90) rfl ?_
    rw [show ((0:Int32) + (1:Int32)) = (1:Int32) from by decide]
    show Steps p.tables e below (T14.setTop (mkF m 91 #[.val (.ref o0), .val (.ref o1), .val (.ref o2), .val (.long q3), .second, .val (.long q4), .second, .val (.long q5), .second, .val (.long (own_kl LL)), .second, .unset] [(.int (1:Int32)), (.ref o0), (.int (0:Int32))])) _
    refine st16 _ ?_
    show Steps p.tables e below (T16.setTop (mkF m 94 #[.val (.ref o0), .val (.ref o1), .val (.ref o2), .val (.long q3), .second, .val (.long q4), .second, .val (.long q5), .second, .val (.long (own_kl LL)), .second, .unset] [(.int (0:Int32))])) _
    refine XS.istore X16.here hx rfl (hb hby d6_94) rfl (l' := #[.val (.ref o0), .val (.ref o1), .val (.ref o2), .val (.long q3), .second, .val (.long q4), .second, .val (.long q5), .second, .val (.long (own_kl LL)), .second, .val (.int (0:Int32))]) rfl ?_
    refine XS.aloadN X16.here hx rfl (hb hby d6_96) rfl rfl ?_
    show Steps p.tables e below (T16.setTop (mkF m 97 #[.val (.ref o0), .val (.ref o1), .val (.ref o2), .val (.long q3), .second, .val (.long q4), .second, .val (.long q5), .second, .val (.long (own_kl LL)), .second, .val (.int (0:Int32))] [(.ref o0)])) _
    refine st18 _ ?_
    show Steps p.tables e below (T18.setTop (mkF m 100 #[.val (.ref o0), .val (.ref o1), .val (.ref o2), .val (.long q3), .second, .val (.long q4), .second, .val (.long q5), .second, .val (.long (own_kl LL)), .second, .val (.int (0:Int32))] [(.ref be)])) _
    refine XS.iload X18.here hx rfl (hb hby d6_100) rfl ?_
    refine XS.aloadN X18.here hx rfl (hb hby d6_102) rfl rfl ?_
    show Steps p.tables e below (T18.setTop (mkF m 103 #[.val (.ref o0), .val (.ref o1), .val (.ref o2), .val (.long q3), .second, .val (.long q4), .second, .val (.long q5), .second, .val (.long (own_kl LL)), .second, .val (.int (0:Int32))] [(.ref o0), (.int (0:Int32)), (.ref be)])) _
    refine st20 _ ?_
    show Steps p.tables e below (T20.setTop (mkF m 106 #[.val (.ref o0), .val (.ref o1), .val (.ref o2), .val (.long q3), .second, .val (.long q4), .second, .val (.long q5), .second, .val (.long (own_kl LL)), .second, .val (.int (0:Int32))] [(.int (ss + ((own_kl LL).toInt32))), (.int (0:Int32)), (.ref be)])) _
    refine st25 _ ?_
    show Steps p.tables e below (T25.setTop (mkF m 107 #[.val (.ref o0), .val (.ref o1), .val (.ref o2), .val (.long q3), .second, .val (.long q4), .second, .val (.long q5), .second, .val (.long (own_kl LL)), .second, .val (.int (0:Int32))] [])) _
    refine XS.aloadN X25.here hx rfl (hb hby d6_107) rfl rfl ?_
    show Steps p.tables e below (T25.setTop (mkF m 108 #[.val (.ref o0), .val (.ref o1), .val (.ref o2), .val (.long q3), .second, .val (.long q4), .second, .val (.long q5), .second, .val (.long (own_kl LL)), .second, .val (.int (0:Int32))] [(.ref o0)])) _
    refine st27 _ ?_
    show Steps p.tables e below (T27.setTop (mkF m 111 #[.val (.ref o0), .val (.ref o1), .val (.ref o2), .val (.long q3), .second, .val (.long q4), .second, .val (.long q5), .second, .val (.long (own_kl LL)), .second, .val (.int (0:Int32))] [(.ref bh)])) _
    refine XS.iload X27.here hx rfl (hb hby d6_111) rfl ?_
    refine XS.aloadN X27.here hx rfl (hb hby d6_113) rfl rfl ?_
    refine XS.aloadN X27.here hx rfl (hb hby d6_114) rfl rfl ?_
    show Steps p.tables e below (T27.setTop (mkF m 115 #[.val (.ref o0), .val (.ref o1), .val (.ref o2), .val (.long q3), .second, .val (.long q4), .second, .val (.long q5), .second, .val (.long (own_kl LL)), .second, .val (.int (0:Int32))] [(.ref o2), (.ref o1), (.int (0:Int32)), (.ref bh)])) _
    refine st28.trans ?_
    show Steps p.tables e below (T28.setTop (mkF m 118 #[.val (.ref o0), .val (.ref o1), .val (.ref o2), .val (.long q3), .second, .val (.long q4), .second, .val (.long q5), .second, .val (.long (own_kl LL)), .second, .val (.int (0:Int32))] [(.int (0:Int32)), (.int (0:Int32)), (.ref bh)])) _
    refine st48 _ ?_
    show Steps p.tables e below (T48.setTop (mkF m 119 #[.val (.ref o0), .val (.ref o1), .val (.ref o2), .val (.long q3), .second, .val (.long q4), .second, .val (.long q5), .second, .val (.long (own_kl LL)), .second, .val (.int (0:Int32))] [])) _
    refine XS.aloadN X48.here hx rfl (hb hby d6_119) rfl rfl ?_
    show Steps p.tables e below (T48.setTop (mkF m 120 #[.val (.ref o0), .val (.ref o1), .val (.ref o2), .val (.long q3), .second, .val (.long q4), .second, .val (.long q5), .second, .val (.long (own_kl LL)), .second, .val (.int (0:Int32))] [(.ref o0)])) _
    refine st50 _ ?_
    show Steps p.tables e below (T50.setTop (mkF m 123 #[.val (.ref o0), .val (.ref o1), .val (.ref o2), .val (.long q3), .second, .val (.long q4), .second, .val (.long q5), .second, .val (.long (own_kl LL)), .second, .val (.int (0:Int32))] [(.ref bf)])) _
    refine XS.iload X50.here hx rfl (hb hby d6_123) rfl ?_
    refine XS.lloadN X50.here hx rfl (hb hby d6_125) rfl ?_
    show Steps p.tables e below (T50.setTop (mkF m 126 #[.val (.ref o0), .val (.ref o1), .val (.ref o2), .val (.long q3), .second, .val (.long q4), .second, .val (.long q5), .second, .val (.long (own_kl LL)), .second, .val (.int (0:Int32))] [(.long q3), (.int (0:Int32)), (.ref bf)])) _
    refine st57 _ ?_
    show Steps p.tables e below (T57.setTop (mkF m 127 #[.val (.ref o0), .val (.ref o1), .val (.ref o2), .val (.long q3), .second, .val (.long q4), .second, .val (.long q5), .second, .val (.long (own_kl LL)), .second, .val (.int (0:Int32))] [])) _
    refine XS.aloadN X57.here hx rfl (hb hby d6_127) rfl rfl ?_
    show Steps p.tables e below (T57.setTop (mkF m 128 #[.val (.ref o0), .val (.ref o1), .val (.ref o2), .val (.long q3), .second, .val (.long q4), .second, .val (.long q5), .second, .val (.long (own_kl LL)), .second, .val (.int (0:Int32))] [(.ref o0)])) _
    refine st59 _ ?_
    show Steps p.tables e below (T59.setTop (mkF m 131 #[.val (.ref o0), .val (.ref o1), .val (.ref o2), .val (.long q3), .second, .val (.long q4), .second, .val (.long q5), .second, .val (.long (own_kl LL)), .second, .val (.int (0:Int32))] [(.ref bg)])) _
    refine XS.iload X59.here hx rfl (hb hby d6_131) rfl ?_
    refine XS.lload X59.here hx rfl (hb hby d6_133) rfl ?_
    show Steps p.tables e below (T59.setTop (mkF m 135 #[.val (.ref o0), .val (.ref o1), .val (.ref o2), .val (.long q3), .second, .val (.long q4), .second, .val (.long q5), .second, .val (.long (own_kl LL)), .second, .val (.int (0:Int32))] [(.long q4), (.int (0:Int32)), (.ref bg)])) _
    refine st67 _ ?_
    show Steps p.tables e below (T67.setTop (mkF m 136 #[.val (.ref o0), .val (.ref o1), .val (.ref o2), .val (.long q3), .second, .val (.long q4), .second, .val (.long q5), .second, .val (.long (own_kl LL)), .second, .val (.int (0:Int32))] [])) _
    refine XS.aloadN X67.here hx rfl (hb hby d6_136) rfl rfl ?_
    show Steps p.tables e below (T67.setTop (mkF m 137 #[.val (.ref o0), .val (.ref o1), .val (.ref o2), .val (.long q3), .second, .val (.long q4), .second, .val (.long q5), .second, .val (.long (own_kl LL)), .second, .val (.int (0:Int32))] [(.ref o0)])) _
    refine st69 _ ?_
    show Steps p.tables e below (T69.setTop (mkF m 140 #[.val (.ref o0), .val (.ref o1), .val (.ref o2), .val (.long q3), .second, .val (.long q4), .second, .val (.long q5), .second, .val (.long (own_kl LL)), .second, .val (.int (0:Int32))] [(.ref bx)])) _
    refine XS.iload X69.here hx rfl (hb hby d6_140) rfl ?_
    refine XS.lload X69.here hx rfl (hb hby d6_142) rfl ?_
    show Steps p.tables e below (T69.setTop (mkF m 144 #[.val (.ref o0), .val (.ref o1), .val (.ref o2), .val (.long q3), .second, .val (.long q4), .second, .val (.long q5), .second, .val (.long (own_kl LL)), .second, .val (.int (0:Int32))] [(.long q5), (.int (0:Int32)), (.ref bx)])) _
    refine st78 _ ?_
    show Steps p.tables e below (T78.setTop (mkF m 145 #[.val (.ref o0), .val (.ref o1), .val (.ref o2), .val (.long q3), .second, .val (.long q4), .second, .val (.long q5), .second, .val (.long (own_kl LL)), .second, .val (.int (0:Int32))] [])) _
    refine XS.aloadN X78.here hx rfl (hb hby d6_145) rfl rfl ?_
    show Steps p.tables e below (T78.setTop (mkF m 146 #[.val (.ref o0), .val (.ref o1), .val (.ref o2), .val (.long q3), .second, .val (.long q4), .second, .val (.long q5), .second, .val (.long (own_kl LL)), .second, .val (.int (0:Int32))] [(.ref o0)])) _
    refine st80 _ ?_
    show Steps p.tables e below (T80.setTop (mkF m 149 #[.val (.ref o0), .val (.ref o1), .val (.ref o2), .val (.long q3), .second, .val (.long q4), .second, .val (.long q5), .second, .val (.long (own_kl LL)), .second, .val (.int (0:Int32))] [(.ref bs)])) _
    refine XS.iload X80.here hx rfl (hb hby d6_149) rfl ?_
    refine XS.aloadN X80.here hx rfl (hb hby d6_151) rfl rfl ?_
    show Steps p.tables e below (T80.setTop (mkF m 152 #[.val (.ref o0), .val (.ref o1), .val (.ref o2), .val (.long q3), .second, .val (.long q4), .second, .val (.long q5), .second, .val (.long (own_kl LL)), .second, .val (.int (0:Int32))] [(.ref o0), (.int (0:Int32)), (.ref bs)])) _
    refine st82 _ ?_
    show Steps p.tables e below (T82.setTop (mkF m 155 #[.val (.ref o0), .val (.ref o1), .val (.ref o2), .val (.long q3), .second, .val (.long q4), .second, .val (.long q5), .second, .val (.long (own_kl LL)), .second, .val (.int (0:Int32))] [(.int sc), (.int (0:Int32)), (.ref bs)])) _
    refine XS.imul X82.here hx rfl (hb hby d6_155) rfl ?_
    refine XS.iload X82.here hx rfl (hb hby d6_156) rfl ?_
    refine XS.iconst X82.here hx rfl (hb hby d6_158) ?_
    show Steps p.tables e below (T82.setTop (mkF m 159 #[.val (.ref o0), .val (.ref o1), .val (.ref o2), .val (.long q3), .second, .val (.long q4), .second, .val (.long q5), .second, .val (.long (own_kl LL)), .second, .val (.int (0:Int32))] [(.int (1:Int32)), (.int (0:Int32)), (.int ((0:Int32) * sc)), (.ref bs)])) _
    refine XS.iadd X82.here hx rfl (hb hby d6_159) rfl ?_
    rw [show ((0:Int32) + (1:Int32)) = (1:Int32) from by decide]
    show Steps p.tables e below (T82.setTop (mkF m 160 #[.val (.ref o0), .val (.ref o1), .val (.ref o2), .val (.long q3), .second, .val (.long q4), .second, .val (.long q5), .second, .val (.long (own_kl LL)), .second, .val (.int (0:Int32))] [(.int (1:Int32)), (.int ((0:Int32) * sc)), (.ref bs)])) _
    refine XS.aloadN X82.here hx rfl (hb hby d6_160) rfl rfl ?_
    show Steps p.tables e below (T82.setTop (mkF m 161 #[.val (.ref o0), .val (.ref o1), .val (.ref o2), .val (.long q3), .second, .val (.long q4), .second, .val (.long q5), .second, .val (.long (own_kl LL)), .second, .val (.int (0:Int32))] [(.ref o0), (.int (1:Int32)), (.int ((0:Int32) * sc)), (.ref bs)])) _
    refine st83 _ ?_
    show Steps p.tables e below (T83.setTop (mkF m 164 #[.val (.ref o0), .val (.ref o1), .val (.ref o2), .val (.long q3), .second, .val (.long q4), .second, .val (.long q5), .second, .val (.long (own_kl LL)), .second, .val (.int (0:Int32))] [(.int sc), (.int (1:Int32)), (.int ((0:Int32) * sc)), (.ref bs)])) _
    refine XS.imul X83.here hx rfl (hb hby d6_164) rfl ?_
    refine XS.iconst X83.here hx rfl (hb hby d6_165) ?_
    show Steps p.tables e below (T83.setTop (mkF m 166 #[.val (.ref o0), .val (.ref o1), .val (.ref o2), .val (.long q3), .second, .val (.long q4), .second, .val (.long q5), .second, .val (.long (own_kl LL)), .second, .val (.int (0:Int32))] [(.int (-1:Int32)), (.int ((1:Int32) * sc)), (.int ((0:Int32) * sc)), (.ref bs)])) _
    refine st84 _ ?_
    show Steps p.tables e below (T84.setTop (mkF m 169 #[.val (.ref o0), .val (.ref o1), .val (.ref o2), .val (.long q3), .second, .val (.long q4), .second, .val (.long q5), .second, .val (.long (own_kl LL)), .second, .val (.int (0:Int32))] [])) _
    refine XS.iload X84.here hx rfl (hb hby d6_169) rfl ?_
    show Steps p.tables e below (T84.setTop (mkF m 171 #[.val (.ref o0), .val (.ref o1), .val (.ref o2), .val (.long q3), .second, .val (.long q4), .second, .val (.long q5), .second, .val (.long (own_kl LL)), .second, .val (.int (0:Int32))] [(.int (0:Int32))])) _
    exact retI X84 hx Bd.returns (hb hby d6_171) hr
  · show rm6_0Q Z o0 bn br bk be bh bf bg bx bs kn kr k1 kk ke kh kf kg kx ks LL sc ss u0 u1 u2 h0 n0 _ T84.heap _
    exact ⟨rfl, N84, Kk_94, Ff_95, Ff_96, Ff_97, Ff_98, Ff_99, Ff_100, Ff_101, Ff_102, Ff_103, Ff_104, Aa_105, Va_106, Aa_107, Aa_108, Aa_109, Aa_110, A84q⟩
theorem pd_rm6_1_0 : parseMethodDescriptor "([I)J" = some ⟨[(.array .int)], some .long⟩ := by decide +kernel
theorem pd_rm6_1_1 : parseMethodDescriptor "([I[BI)V" = some ⟨[(.array .int), (.array .byte), .int], none⟩ := by decide +kernel
theorem pd_rm6_1_2 : parseMethodDescriptor "([I)I" = some ⟨[(.array .int)], some .int⟩ := by decide +kernel
theorem pd_rm6_1_3 : parseMethodDescriptor "([IIII)V" = some ⟨[(.array .int), .int, .int, .int], none⟩ := by decide +kernel
theorem ef_rm6_1 (m : MethodId) (o0 : Nat) (o1 : Nat) (o2 : Nat) (q3 : Int64) (q4 : Int64) (q5 : Int64) : entryFrame m #[(.ref o0), (.ref o1), (.ref o2), (.long q3), (.long q4), (.long q5)] 12 = mkF m 0 #[.val (.ref o0), .val (.ref o1), .val (.ref o2), .val (.long q3), .second, .val (.long q4), .second, .val (.long q5), .second, .unset, .unset, .unset] [] := by first | (simp [entryFrame, mkF, argsToLocals, Value.category]; done) | rfl
def rm6_1Q (Z : State) (o0 : Nat) (bn br bk be bh bf bg bx bs : Nat) (kn kr k1 kk ke kh kf kg kx ks : ClassId) (LL sc ss u0 u1 u2 : Int32) (h0 : Heap) (n0 : Nat) (v : Option Value) (h : Heap) (L : List Loc) : Prop := v = some (.int (1:Int32)) ∧ Fr n0 L ∧ Keep h0 h [o0, bk, be, bh, bf, bg, bx, bs] ∧ Fld Z h o0 "com/example/tavola/tavola/profile/RowBatch" "staticColumns" "I" (.int sc) ∧ Fld Z h o0 "com/example/tavola/tavola/profile/RowBatch" "keysLength" "I" (.int (ss + ((own_kl LL).toInt32))) ∧ Fld Z h o0 "com/example/tavola/tavola/profile/RowBatch" "count" "I" (.int (2:Int32)) ∧ Fld Z h o0 "com/example/tavola/tavola/profile/RowBatch" "keys" "[B" (.ref bk) ∧ Fld Z h o0 "com/example/tavola/tavola/profile/RowBatch" "keyEnds" "[I" (.ref be) ∧ Fld Z h o0 "com/example/tavola/tavola/profile/RowBatch" "hashes" "[I" (.ref bh) ∧ Fld Z h o0 "com/example/tavola/tavola/profile/RowBatch" "keyBytes" "[J" (.ref bf) ∧ Fld Z h o0 "com/example/tavola/tavola/profile/RowBatch" "rowBytes" "[J" (.ref bg) ∧ Fld Z h o0 "com/example/tavola/tavola/profile/RowBatch" "regularValues" "[J" (.ref bx) ∧ Fld Z h o0 "com/example/tavola/tavola/profile/RowBatch" "statics" "[I" (.ref bs) ∧ own_Arf Z h bk kk .byte (65536:Int32) (.int (0:Int32)) ∧ Arv Z h be ke .int (1024:Int32) [(.int u0), (.int (ss + ((own_kl LL).toInt32))), (.int u2)] (.int (0:Int32)) ∧ own_Arf Z h bh kh .int (1024:Int32) (.int (0:Int32)) ∧ own_Arf Z h bf kf .long (1024:Int32) (.long (0:Int64)) ∧ own_Arf Z h bg kg .long (1024:Int32) (.long (0:Int64)) ∧ own_Arf Z h bx kx .long (1024:Int32) (.long (0:Int64)) ∧ own_Arf Z h bs ks .int ((1024:Int32) * sc) (.int (0:Int32))
set_option maxRecDepth 65536 in
set_option maxHeartbeats 40000000 in
theorem rm6_1 (l : Launch) (Z : State) (aw : Array Value) (hw : ∀ d ∈ tables_1, d.before aw Z = true) (ws : List Jvm.Cond) (o0 : Nat) (o1 : Nat) (o2 : Nat) (q3 : Int64) (q4 : Int64) (q5 : Int64) (bn br bk be bh bf bg bx bs : Nat) (kn kr k1 kk ke kh kf kg kx ks : ClassId) (LL sc ss u0 u1 u2 : Int32) (h0 : Heap) (n0 : Nat) (Z0 : n0 ≤ h0.size) (E_o0 : Exa Z h0 o0 "com/example/tavola/tavola/profile/RowBatch") (E_o1 : Exa Z h0 o1 "com/example/tavola/tavola/profile/CsvReader") (F_ends : Fld Z h0 o1 "com/example/tavola/tavola/profile/CsvReader" "ends" "[I" (.ref bn)) (V_bn : Arv Z h0 bn kn .int (16:Int32) [] (.int (0:Int32))) (F_rec : Fld Z h0 o1 "com/example/tavola/tavola/profile/CsvReader" "record" "[B" (.ref br)) (A_br : own_Arf Z h0 br kr .byte (256:Int32) (.int (0:Int32))) (V_o2 : Arv Z h0 o2 k1 .int LL [] (.int (0:Int32))) (Fi0 : Fld Z h0 o0 "com/example/tavola/tavola/profile/RowBatch" "staticColumns" "I" (.int sc)) (Fi1 : Fld Z h0 o0 "com/example/tavola/tavola/profile/RowBatch" "keysLength" "I" (.int ss)) (Fi2 : Fld Z h0 o0 "com/example/tavola/tavola/profile/RowBatch" "count" "I" (.int (1:Int32))) (Fa0 : Fld Z h0 o0 "com/example/tavola/tavola/profile/RowBatch" "keys" "[B" (.ref bk)) (Fa1 : Fld Z h0 o0 "com/example/tavola/tavola/profile/RowBatch" "keyEnds" "[I" (.ref be)) (Fa2 : Fld Z h0 o0 "com/example/tavola/tavola/profile/RowBatch" "hashes" "[I" (.ref bh)) (Fa3 : Fld Z h0 o0 "com/example/tavola/tavola/profile/RowBatch" "keyBytes" "[J" (.ref bf)) (Fa4 : Fld Z h0 o0 "com/example/tavola/tavola/profile/RowBatch" "rowBytes" "[J" (.ref bg)) (Fa5 : Fld Z h0 o0 "com/example/tavola/tavola/profile/RowBatch" "regularValues" "[J" (.ref bx)) (Fa6 : Fld Z h0 o0 "com/example/tavola/tavola/profile/RowBatch" "statics" "[I" (.ref bs)) (Va0 : own_Arf Z h0 bk kk .byte (65536:Int32) (.int (0:Int32))) (Va1 : Arv Z h0 be ke .int (1024:Int32) [(.int u0), (.int u1), (.int u2)] (.int (0:Int32))) (Va2 : own_Arf Z h0 bh kh .int (1024:Int32) (.int (0:Int32))) (Va3 : own_Arf Z h0 bf kf .long (1024:Int32) (.long (0:Int64))) (Va4 : own_Arf Z h0 bg kg .long (1024:Int32) (.long (0:Int64))) (Va5 : own_Arf Z h0 bx kx .long (1024:Int32) (.long (0:Int64))) (Va6 : own_Arf Z h0 bs ks .int ((1024:Int32) * sc) (.int (0:Int32))) (lt0 : o2 < o1) (lt1 : o1 < br) (lt2 : br < bn) (lt3 : bn < o0) (lt4 : o0 < bk) (lt5 : bk < be) (lt6 : be < bh) (lt7 : bh < bf) (lt8 : bf < bg) (lt9 : bg < bx) (lt10 : bx < bs) (g_o0 : n0 ≤ o0) (g_bk : n0 ≤ bk) (g_be : n0 ≤ be) (g_bh : n0 ≤ bh) (g_bf : n0 ≤ bf) (g_bg : n0 ≤ bg) (g_bx : n0 ≤ bx) (g_bs : n0 ≤ bs) (hL : LL = (1:Int32) ∨ LL = (2:Int32) ∨ LL = (3:Int32) ∨ LL = (4:Int32)) (hsc : sc = (0:Int32) ∨ sc = (1:Int32) ∨ sc = (2:Int32) ∨ sc = (3:Int32)) (hp0 : ¬ ss < (0:Int32)) (hp6 : ¬ (6:Int32) < ss) :
    MetFree l (⟨"com/example/tavola/tavola/profile/RowBatch", "add", "(Lcom/example/tavola/tavola/profile/CsvReader;[IJJJ)I"⟩ : MethodName) (head1 (Jvm.Cond.code (⟨"com/example/tavola/tavola/profile/RowBatch", "add", "(Lcom/example/tavola/tavola/profile/CsvReader;[IJJJ)I"⟩ : MethodName) prog_92_method_2_code 12 (some .int) :: ws) ({ frames := 2, cells := 0, slots := 0, locals := 78 } : Room)) (fun a U => a = #[(.ref o0), (.ref o1), (.ref o2), (.long q3), (.long q4), (.long q5)] ∧ Z.Warmed39 U.vm ∧ U.heap = h0) (fun _ _ _ _ _ => True) (fun _ U o U' => ∃ v L, o = .returned v ∧ rm6_1Q Z o0 bn br bk be bh bf bg bx bs kn kr k1 kk ke kh kf kg kx ks LL sc ss u0 u1 u2 h0 n0 v U'.heap L ∧ FrameEnd U o U' L ({ frames := 2, cells := 0, slots := 0, locals := 78 } : Room).cells ({ frames := 2, cells := 0, slots := 0, locals := 78 } : Room).slots) := by
  refine MetFree.of_bodySF (plainFor_of_name pn_6) hisR ?_
  intro p e s m args below meth c s₁ Bd hml0 hP hK
  obtain ⟨rfl, hZ, hh⟩ := hP
  have hx := Bd.exec
  have hby := Bd.bytes
  have hml : c.maxLocals = 12 := hml0
  have hown : s.vm.findClass "com/example/tavola/tavola/profile/RowBatch" = some m.cls := findClass_of_methodNamed Bd.named
  have hnm := (name_of_methodNamed Bd.named Bd.method).1
  have X0 : Stand p l e ({ frames := 2, cells := 0, slots := 0, locals := 78 } : Room) s m #[(.ref o0), (.ref o1), (.ref o2), (.long q3), (.long q4), (.long q5)] below meth c s₁ [] 0 0 := Stand.of_body Bd
  have e0 : s₁.heap = h0 := by rw [← hh, Bd.state]; rfl
  have N0 := Fr.nil n0
  have pre0 : ∀ t, Steps p.tables e below (s₁.setTop (mkF m 0 #[.val (.ref o0), .val (.ref o1), .val (.ref o2), .val (.long q3), .second, .val (.long q4), .second, .val (.long q5), .second, .unset, .unset, .unset] [])) t → Steps p.tables e below (s₁.setTop (entryFrame m #[(.ref o0), (.ref o1), (.ref o2), (.long q3), (.long q4), (.long q5)] 12)) t := fun t k => castTop (ef_rm6_1 m o0 o1 o2 q3 q4 q5) k
  obtain ⟨cq1, kq1, q1a, q1b, q1c⟩ := isOf hZ e0 (E_o1)
  obtain ⟨_, _, ⟨T1, L1, k1, n1⟩, -, X1, ⟨Lc1, hQ1, l1, y1, z1⟩, st1⟩ := X0.virtualBack hx (y := (⟨"com/example/tavola/tavola/profile/CsvReader", "keyLength", "([I)J"⟩ : MethodName)) (z := (⟨"com/example/tavola/tavola/profile/CsvReader", "keyLength", "([I)J"⟩ : MethodName)) hown (mvT hZ (hw _ (oG (i := 65) rfl))) (mvT hZ (hw _ (oG (i := 66) rfl))) (notFace_of_selects (args := #[]) (mvT hZ (hw _ (oG (i := 68) rfl)))) (mvT hZ (hw _ (oG (i := 68) rfl))) (mvT hZ (hw _ (oG (i := 67) rfl))) (by decide) (backOf (W := 0) (rm7 l Z aw hw [] o1 o2 bn kn k1 LL h0 n0 Z0 E_o1 F_ends V_bn V_o2 hL) hZ (hw _ (oG (i := 69) rfl)) (hw _ (oG (i := 4) rfl)) (by decide) (by decide)) q1a q1c (g := (mkF m 2 #[.val (.ref o0), .val (.ref o1), .val (.ref o2), .val (.long q3), .second, .val (.long q4), .second, .val (.long q5), .second, .unset, .unset, .unset] [(.ref o2), (.ref o1)])) rfl (by rw [hml]; rfl) (Steps.refl _) (argsL := [(.ref o2)]) (rest := []) (lenOf pd_rm6_1_0 rfl) rfl (by show 2 * 0 + _ ≤ _; exact Nat.le_of_eq rfl) (hb hby d6_2) (fun _ _ => ⟨rfl, e0, (by decide : 0 + 0 ≤ _), (by decide : 0 + 0 ≤ _)⟩)
  dsimp only [Pt.U, Pt.locs, Pt.cells, Pt.slots] at X1 l1 y1 z1 st1 hQ1
  subst l1 y1 z1
  obtain ⟨rfl, N1q, e1q⟩ := hQ1
  have N1 := Fr.app N0 N1q
  obtain ⟨T2, X2, e2, st2⟩ := getF X1 hx hZ hown (host := "") (Or.inl (hw _ (oG (i := 74) rfl))) Via.refl e1q Fi1 (g := (mkF m 8 #[.val (.ref o0), .val (.ref o1), .val (.ref o2), .val (.long q3), .second, .val (.long q4), .second, .val (.long q5), .second, .val (.long (own_kl LL)), .second, .unset] [(.ref o0)])) rfl rfl (hb hby d6_8)
  obtain ⟨T3, X3, e3, st3⟩ := getF X2 hx hZ hown (host := "") (Or.inl (hw _ (oG (i := 34) rfl))) Via.refl e2 Fa0 (g := (mkF m 16 #[.val (.ref o0), .val (.ref o1), .val (.ref o2), .val (.long q3), .second, .val (.long q4), .second, .val (.long q5), .second, .val (.long (own_kl LL)), .second, .unset] [(.ref o0), (.long ((ss.toInt64) + (own_kl LL)))])) rfl rfl (hb hby d6_16)
  obtain ⟨vs4, hl4, cl4, Ar4, -, S4, N4', -, -⟩ := id Va0
  obtain ⟨T5, X5, e5, st5⟩ := getF X3 hx hZ hown (host := "") (Or.inl (hw _ (oG (i := 34) rfl))) Via.refl e3 Fa0 (g := (mkF m 61 #[.val (.ref o0), .val (.ref o1), .val (.ref o2), .val (.long q3), .second, .val (.long q4), .second, .val (.long q5), .second, .val (.long (own_kl LL)), .second, .unset] [(.ref o0), (.ref o2), (.ref o1)])) rfl rfl (hb hby d6_61)
  obtain ⟨T6, X6, e6, st6⟩ := getF X5 hx hZ hown (host := "") (Or.inl (hw _ (oG (i := 74) rfl))) Via.refl e5 Fi1 (g := (mkF m 65 #[.val (.ref o0), .val (.ref o1), .val (.ref o2), .val (.long q3), .second, .val (.long q4), .second, .val (.long q5), .second, .val (.long (own_kl LL)), .second, .unset] [(.ref o0), (.ref bk), (.ref o2), (.ref o1)])) rfl rfl (hb hby d6_65)
  obtain ⟨cq7, kq7, q7a, q7b, q7c⟩ := isOf hZ e6 (E_o1)
  obtain ⟨_, _, ⟨T7, L7, k7, n7⟩, -, X7, ⟨Lc7, hQ7, l7, y7, z7⟩, st7⟩ := X6.virtualBack hx (y := (⟨"com/example/tavola/tavola/profile/CsvReader", "copyKey", "([I[BI)V"⟩ : MethodName)) (z := (⟨"com/example/tavola/tavola/profile/CsvReader", "copyKey", "([I[BI)V"⟩ : MethodName)) hown (mvT hZ (hw _ (oG (i := 76) rfl))) (mvT hZ (hw _ (oG (i := 77) rfl))) (notFace_of_selects (args := #[]) (mvT hZ (hw _ (oG (i := 79) rfl)))) (mvT hZ (hw _ (oG (i := 79) rfl))) (mvT hZ (hw _ (oG (i := 78) rfl))) (by decide) (backOf (W := 0) (rm9 l Z aw hw [] o1 o2 bk ss bn br kn kr k1 kk LL h0 n0 Z0 E_o1 F_ends V_bn F_rec A_br V_o2 Va0 g_bk hp0 hp6 (by omega) (by omega) (by omega) (by omega) hL) hZ (hw _ (oG (i := 80) rfl)) (hw _ (oG (i := 4) rfl)) (by decide) (by decide)) q7a q7c (g := (mkF m 68 #[.val (.ref o0), .val (.ref o1), .val (.ref o2), .val (.long q3), .second, .val (.long q4), .second, .val (.long q5), .second, .val (.long (own_kl LL)), .second, .unset] [(.int ss), (.ref bk), (.ref o2), (.ref o1)])) rfl (by rw [hml]; rfl) (Steps.refl _) (argsL := [(.ref o2), (.ref bk), (.int ss)]) (rest := []) (lenOf pd_rm6_1_1 rfl) rfl (by show 2 * 0 + _ ≤ _; exact Nat.le_of_eq rfl) (hb hby d6_68) (fun _ _ => ⟨rfl, e6, (by decide : 0 + 0 ≤ _), (by decide : 0 + 0 ≤ _)⟩)
  dsimp only [Pt.U, Pt.locs, Pt.cells, Pt.slots] at X7 l7 y7 z7 st7 hQ7
  subst l7 y7 z7
  obtain ⟨rfl, N7q, K7q, A7q⟩ := hQ7
  have N7 := Fr.app N1 N7q
  have ne_8 : o0 ≠ bk := by omega
  have Ff_9 : Fld Z T7.heap o0 "com/example/tavola/tavola/profile/RowBatch" "keysLength" "I" (.int ss) := (Fi1.keep K7q (ninS ne_8 nin0))
  obtain ⟨T10, X10, e10, st10⟩ := getF X7 hx hZ hown (host := "") (Or.inl (hw _ (oG (i := 74) rfl))) Via.refl rfl Ff_9 (g := (mkF m 73 #[.val (.ref o0), .val (.ref o1), .val (.ref o2), .val (.long q3), .second, .val (.long q4), .second, .val (.long q5), .second, .val (.long (own_kl LL)), .second, .unset] [(.ref o0), (.ref o0)])) rfl rfl (hb hby d6_73)
  have Ee_11 : Exa Z T7.heap o0 "com/example/tavola/tavola/profile/RowBatch" := (E_o0.keep K7q)
  obtain ⟨T12, h12, X12, e12, W12, st12⟩ := putF X10 hx hZ hown (host := "") (Or.inl (hw _ (oG (i := 74) rfl))) Via.refl e10 Ff_9 Ee_11 (Or.inl (hw _ (oG (i := 75) rfl))) (hw _ (oG (i := 27) rfl)) (ty := .int) (by decide) rfl rfl (g := (mkF m 80 #[.val (.ref o0), .val (.ref o1), .val (.ref o2), .val (.long q3), .second, .val (.long q4), .second, .val (.long q5), .second, .val (.long (own_kl LL)), .second, .unset] [(.int (ss + ((own_kl LL).toInt32))), (.ref o0)])) rfl rfl (hb hby d6_80)
  have Fw12 := Fld.same W12 Ff_9
  have N12 := Fr.snoc X12 N7 g_o0
  have Ff_13 : Fld Z h12 o0 "com/example/tavola/tavola/profile/RowBatch" "count" "I" (.int (1:Int32)) := ((Fi2.keep K7q (ninS ne_8 nin0)).other W12 (Or.inr (slot_ne (Or.inl (hw _ (oG (i := 86) rfl))) (Or.inl (hw _ (oG (i := 75) rfl))) (by decide) (t := .int) (t' := .int) (by decide) (by decide))))
  obtain ⟨T14, X14, e14, st14⟩ := getF X12 hx hZ hown (host := "") (Or.inl (hw _ (oG (i := 85) rfl))) Via.refl e12 Ff_13 (g := (mkF m 85 #[.val (.ref o0), .val (.ref o1), .val (.ref o2), .val (.long q3), .second, .val (.long q4), .second, .val (.long q5), .second, .val (.long (own_kl LL)), .second, .unset] [(.ref o0), (.ref o0)])) rfl rfl (hb hby d6_85)
  have Ee_15 : Exa Z h12 o0 "com/example/tavola/tavola/profile/RowBatch" := (Ee_11.wr W12)
  obtain ⟨T16, h16, X16, e16, W16, st16⟩ := putF X14 hx hZ hown (host := "") (Or.inl (hw _ (oG (i := 85) rfl))) Via.refl e14 Ff_13 Ee_15 (Or.inl (hw _ (oG (i := 86) rfl))) (hw _ (oG (i := 27) rfl)) (ty := .int) (by decide) rfl rfl (g := (mkF m 91 #[.val (.ref o0), .val (.ref o1), .val (.ref o2), .val (.long q3), .second, .val (.long q4), .second, .val (.long q5), .second, .val (.long (own_kl LL)), .second, .unset] [(.int (2:Int32)), (.ref o0), (.int (1:Int32))])) rfl rfl (hb hby d6_91)
  have Fw16 := Fld.same W16 Ff_13
  have N16 := Fr.snoc X16 N12 g_o0
  have Ff_17 : Fld Z h16 o0 "com/example/tavola/tavola/profile/RowBatch" "keyEnds" "[I" (.ref be) := (((Fa1.keep K7q (ninS ne_8 nin0)).other W12 (Or.inr (slot_ne (Or.inr (hw _ (oG (i := 37) rfl))) (Or.inl (hw _ (oG (i := 75) rfl))) (by decide) (t := (.array .int)) (t' := .int) (by decide) (by decide)))).other W16 (Or.inr (slot_ne (Or.inr (hw _ (oG (i := 37) rfl))) (Or.inl (hw _ (oG (i := 86) rfl))) (by decide) (t := (.array .int)) (t' := .int) (by decide) (by decide))))
  obtain ⟨T18, X18, e18, st18⟩ := getF X16 hx hZ hown (host := "") (Or.inl (hw _ (oG (i := 36) rfl))) Via.refl e16 Ff_17 (g := (mkF m 97 #[.val (.ref o0), .val (.ref o1), .val (.ref o2), .val (.long q3), .second, .val (.long q4), .second, .val (.long q5), .second, .val (.long (own_kl LL)), .second, .val (.int (1:Int32))] [(.ref o0)])) rfl rfl (hb hby d6_97)
  have Ff_19 : Fld Z h16 o0 "com/example/tavola/tavola/profile/RowBatch" "keysLength" "I" (.int (ss + ((own_kl LL).toInt32))) := (Fw12.other W16 (Or.inr (slot_ne (Or.inl (hw _ (oG (i := 75) rfl))) (Or.inl (hw _ (oG (i := 86) rfl))) (by decide) (t := .int) (t' := .int) (by decide) (by decide))))
  obtain ⟨T20, X20, e20, st20⟩ := getF X18 hx hZ hown (host := "") (Or.inl (hw _ (oG (i := 74) rfl))) Via.refl e18 Ff_19 (g := (mkF m 103 #[.val (.ref o0), .val (.ref o1), .val (.ref o2), .val (.long q3), .second, .val (.long q4), .second, .val (.long q5), .second, .val (.long (own_kl LL)), .second, .val (.int (1:Int32))] [(.ref o0), (.int (1:Int32)), (.ref be)])) rfl rfl (hb hby d6_103)
  have ne_21 : be ≠ bk := by omega
  have ne_22 : be ≠ o0 := by omega
  have Va_23 : Arv Z h16 be ke .int (1024:Int32) [(.int u0), (.int u1), (.int u2)] (.int (0:Int32)) := (((Va1.keep K7q (ninS ne_21 nin0)).other W12 ne_22).other W16 ne_22)
  obtain ⟨cl24, Ar24, q24, S24, N24', H24, G24⟩ := id Va_23
  have hin24 : ¬ ((1:Int32) < 0 ∨ cl24.slots.size ≤ ((1:Int32)).toNatClampNeg) := inb_of S24 ⟨by decide, by decide⟩
  obtain ⟨T25, h25, X25, e25, W25, st25⟩ := stI X20 hx hZ e20 Ar24 (j := (1:Int32)) hin24 (g := (mkF m 106 #[.val (.ref o0), .val (.ref o1), .val (.ref o2), .val (.long q3), .second, .val (.long q4), .second, .val (.long q5), .second, .val (.long (own_kl LL)), .second, .val (.int (1:Int32))] [(.int (ss + ((own_kl LL).toInt32))), (.int (1:Int32)), (.ref be)])) rfl rfl (hb hby d6_106)
  have Vs25 : Arv Z h25 be ke .int (1024:Int32) [(.int u0), (.int (ss + ((own_kl LL).toInt32))), (.int u2)] (.int (0:Int32)) := Arv.set Ar24 q24 S24 N24' H24 G24 rfl W25 1 rfl (Nat.le_of_ble_eq_true rfl)
  have N25 := Fr.snoc X25 N16 g_be
  have Ff_26 : Fld Z h25 o0 "com/example/tavola/tavola/profile/RowBatch" "hashes" "[I" (.ref bh) := ((((Fa2.keep K7q (ninS ne_8 nin0)).other W12 (Or.inr (slot_ne (Or.inr (hw _ (oG (i := 39) rfl))) (Or.inl (hw _ (oG (i := 75) rfl))) (by decide) (t := (.array .int)) (t' := .int) (by decide) (by decide)))).other W16 (Or.inr (slot_ne (Or.inr (hw _ (oG (i := 39) rfl))) (Or.inl (hw _ (oG (i := 86) rfl))) (by decide) (t := (.array .int)) (t' := .int) (by decide) (by decide)))).other W25 (Or.inl (Ne.symm ne_22)))
  obtain ⟨T27, X27, e27, st27⟩ := getF X25 hx hZ hown (host := "") (Or.inl (hw _ (oG (i := 38) rfl))) Via.refl e25 Ff_26 (g := (mkF m 108 #[.val (.ref o0), .val (.ref o1), .val (.ref o2), .val (.long q3), .second, .val (.long q4), .second, .val (.long q5), .second, .val (.long (own_kl LL)), .second, .val (.int (1:Int32))] [(.ref o0)])) rfl rfl (hb hby d6_108)
  have Zz_29 : n0 ≤ h25.size := (Nat.le_trans (Nat.le_trans (Nat.le_trans (Nat.le_trans Z0 K7q.1) (Keep.of_wr W12).1) (Keep.of_wr W16).1) (Keep.of_wr W25).1)
  have Ee_30 : Exa Z h25 o1 "com/example/tavola/tavola/profile/CsvReader" := ((((E_o1.keep K7q).wr W12).wr W16).wr W25)
  have ne_31 : o1 ≠ bk := by omega
  have ne_32 : o1 ≠ o0 := by omega
  have ne_33 : o1 ≠ be := by omega
  have Ff_34 : Fld Z h25 o1 "com/example/tavola/tavola/profile/CsvReader" "ends" "[I" (.ref bn) := ((((F_ends.keep K7q (ninS ne_31 nin0)).other W12 (Or.inl ne_32)).other W16 (Or.inl ne_32)).other W25 (Or.inl ne_33))
  have ne_35 : bn ≠ bk := by omega
  have ne_36 : bn ≠ o0 := by omega
  have ne_37 : bn ≠ be := by omega
  have Va_38 : Arv Z h25 bn kn .int (16:Int32) [] (.int (0:Int32)) := ((((V_bn.keep K7q (ninS ne_35 nin0)).other W12 ne_36).other W16 ne_36).other W25 ne_37)
  have ne_39 : o2 ≠ bk := by omega
  have ne_40 : o2 ≠ o0 := by omega
  have ne_41 : o2 ≠ be := by omega
  have Va_42 : Arv Z h25 o2 k1 .int LL [] (.int (0:Int32)) := ((((V_o2.keep K7q (ninS ne_39 nin0)).other W12 ne_40).other W16 ne_40).other W25 ne_41)
  obtain ⟨cq28, kq28, q28a, q28b, q28c⟩ := isOf hZ e27 (Ee_30)
  obtain ⟨_, _, ⟨T28, L28, k28, n28⟩, -, X28, ⟨Lc28, hQ28, l28, y28, z28⟩, st28⟩ := X27.virtualBack hx (y := (⟨"com/example/tavola/tavola/profile/CsvReader", "keyHash", "([I)I"⟩ : MethodName)) (z := (⟨"com/example/tavola/tavola/profile/CsvReader", "keyHash", "([I)I"⟩ : MethodName)) hown (mvT hZ (hw _ (oG (i := 87) rfl))) (mvT hZ (hw _ (oG (i := 88) rfl))) (notFace_of_selects (args := #[]) (mvT hZ (hw _ (oG (i := 90) rfl)))) (mvT hZ (hw _ (oG (i := 90) rfl))) (mvT hZ (hw _ (oG (i := 89) rfl))) (by decide) (backOf (W := 2) (rm10 l Z aw hw [] o1 o2 bn kn k1 LL h25 n0 Zz_29 Ee_30 Ff_34 Va_38 Va_42 hL) hZ (hw _ (oG (i := 91) rfl)) (hw _ (oG (i := 4) rfl)) (by decide) (by decide)) q28a q28c (g := (mkF m 115 #[.val (.ref o0), .val (.ref o1), .val (.ref o2), .val (.long q3), .second, .val (.long q4), .second, .val (.long q5), .second, .val (.long (own_kl LL)), .second, .val (.int (1:Int32))] [(.ref o2), (.ref o1), (.int (1:Int32)), (.ref bh)])) rfl (by rw [hml]; rfl) (Steps.refl _) (argsL := [(.ref o2)]) (rest := [(.int (1:Int32)), (.ref bh)]) (lenOf pd_rm6_1_2 rfl) rfl (by show 2 * 0 + _ ≤ _; exact Nat.le_of_eq rfl) (hb hby d6_115) (fun _ _ => ⟨rfl, e27, (by decide : 0 + 0 ≤ _), (by decide : 0 + 0 ≤ _)⟩)
  dsimp only [Pt.U, Pt.locs, Pt.cells, Pt.slots] at X28 l28 y28 z28 st28 hQ28
  subst l28 y28 z28
  obtain ⟨rfl, N28q, e28q⟩ := hQ28
  have N28 := Fr.app N25 N28q
  have ne_43 : bh ≠ bk := by omega
  have ne_44 : bh ≠ o0 := by omega
  have ne_45 : bh ≠ be := by omega
  have Aa_46 : own_Arf Z h25 bh kh .int (1024:Int32) (.int (0:Int32)) := (own_arfO (own_arfO (own_arfO (own_arfK Va2 K7q (ninS ne_43 nin0)) W12 ne_44) W16 ne_44) W25 ne_45)
  obtain ⟨vs47, hl47, cl47, Ar47, q47, S47, N47', H47, G47⟩ := id Aa_46
  have hin47 : ¬ ((1:Int32) < 0 ∨ cl47.slots.size ≤ ((1:Int32)).toNatClampNeg) := inb_of S47 ⟨by decide, by decide⟩
  obtain ⟨T48, h48, X48, e48, W48, st48⟩ := stI X28 hx hZ e28q Ar47 (j := (1:Int32)) hin47 (g := (mkF m 118 #[.val (.ref o0), .val (.ref o1), .val (.ref o2), .val (.long q3), .second, .val (.long q4), .second, .val (.long q5), .second, .val (.long (own_kl LL)), .second, .val (.int (1:Int32))] [(.int (0:Int32)), (.int (1:Int32)), (.ref bh)])) rfl rfl (hb hby d6_118)
  have As48 : own_Arf Z h48 bh kh .int (1024:Int32) (.int (0:Int32)) := own_arfW hl47 Ar47 q47 S47 N47' H47 G47 rfl W48 hin47
  have N48 := Fr.snoc X48 N28 g_bh
  have Ff_49 : Fld Z h48 o0 "com/example/tavola/tavola/profile/RowBatch" "keyBytes" "[J" (.ref bf) := (((((Fa3.keep K7q (ninS ne_8 nin0)).other W12 (Or.inr (slot_ne (Or.inr (hw _ (oG (i := 42) rfl))) (Or.inl (hw _ (oG (i := 75) rfl))) (by decide) (t := (.array .long)) (t' := .int) (by decide) (by decide)))).other W16 (Or.inr (slot_ne (Or.inr (hw _ (oG (i := 42) rfl))) (Or.inl (hw _ (oG (i := 86) rfl))) (by decide) (t := (.array .long)) (t' := .int) (by decide) (by decide)))).other W25 (Or.inl (Ne.symm ne_22))).other W48 (Or.inl (Ne.symm ne_44)))
  obtain ⟨T50, X50, e50, st50⟩ := getF X48 hx hZ hown (host := "") (Or.inl (hw _ (oG (i := 41) rfl))) Via.refl e48 Ff_49 (g := (mkF m 120 #[.val (.ref o0), .val (.ref o1), .val (.ref o2), .val (.long q3), .second, .val (.long q4), .second, .val (.long q5), .second, .val (.long (own_kl LL)), .second, .val (.int (1:Int32))] [(.ref o0)])) rfl rfl (hb hby d6_120)
  have ne_51 : bf ≠ bk := by omega
  have ne_52 : bf ≠ o0 := by omega
  have ne_53 : bf ≠ be := by omega
  have ne_54 : bf ≠ bh := by omega
  have Aa_55 : own_Arf Z h48 bf kf .long (1024:Int32) (.long (0:Int64)) := (own_arfO (own_arfO (own_arfO (own_arfO (own_arfK Va3 K7q (ninS ne_51 nin0)) W12 ne_52) W16 ne_52) W25 ne_53) W48 ne_54)
  obtain ⟨vs56, hl56, cl56, Ar56, q56, S56, N56', H56, G56⟩ := id Aa_55
  have hin56 : ¬ ((1:Int32) < 0 ∨ cl56.slots.size ≤ ((1:Int32)).toNatClampNeg) := inb_of S56 ⟨by decide, by decide⟩
  obtain ⟨T57, h57, X57, e57, W57, st57⟩ := stJ X50 hx hZ e50 Ar56 (j := (1:Int32)) hin56 (g := (mkF m 126 #[.val (.ref o0), .val (.ref o1), .val (.ref o2), .val (.long q3), .second, .val (.long q4), .second, .val (.long q5), .second, .val (.long (own_kl LL)), .second, .val (.int (1:Int32))] [(.long q3), (.int (1:Int32)), (.ref bf)])) rfl rfl (hb hby d6_126)
  have As57 : own_Arf Z h57 bf kf .long (1024:Int32) (.long (0:Int64)) := own_arfW hl56 Ar56 q56 S56 N56' H56 G56 rfl W57 hin56
  have N57 := Fr.snoc X57 N48 g_bf
  have Ff_58 : Fld Z h57 o0 "com/example/tavola/tavola/profile/RowBatch" "rowBytes" "[J" (.ref bg) := ((((((Fa4.keep K7q (ninS ne_8 nin0)).other W12 (Or.inr (slot_ne (Or.inr (hw _ (oG (i := 44) rfl))) (Or.inl (hw _ (oG (i := 75) rfl))) (by decide) (t := (.array .long)) (t' := .int) (by decide) (by decide)))).other W16 (Or.inr (slot_ne (Or.inr (hw _ (oG (i := 44) rfl))) (Or.inl (hw _ (oG (i := 86) rfl))) (by decide) (t := (.array .long)) (t' := .int) (by decide) (by decide)))).other W25 (Or.inl (Ne.symm ne_22))).other W48 (Or.inl (Ne.symm ne_44))).other W57 (Or.inl (Ne.symm ne_52)))
  obtain ⟨T59, X59, e59, st59⟩ := getF X57 hx hZ hown (host := "") (Or.inl (hw _ (oG (i := 43) rfl))) Via.refl e57 Ff_58 (g := (mkF m 128 #[.val (.ref o0), .val (.ref o1), .val (.ref o2), .val (.long q3), .second, .val (.long q4), .second, .val (.long q5), .second, .val (.long (own_kl LL)), .second, .val (.int (1:Int32))] [(.ref o0)])) rfl rfl (hb hby d6_128)
  have ne_60 : bg ≠ bk := by omega
  have ne_61 : bg ≠ o0 := by omega
  have ne_62 : bg ≠ be := by omega
  have ne_63 : bg ≠ bh := by omega
  have ne_64 : bg ≠ bf := by omega
  have Aa_65 : own_Arf Z h57 bg kg .long (1024:Int32) (.long (0:Int64)) := (own_arfO (own_arfO (own_arfO (own_arfO (own_arfO (own_arfK Va4 K7q (ninS ne_60 nin0)) W12 ne_61) W16 ne_61) W25 ne_62) W48 ne_63) W57 ne_64)
  obtain ⟨vs66, hl66, cl66, Ar66, q66, S66, N66', H66, G66⟩ := id Aa_65
  have hin66 : ¬ ((1:Int32) < 0 ∨ cl66.slots.size ≤ ((1:Int32)).toNatClampNeg) := inb_of S66 ⟨by decide, by decide⟩
  obtain ⟨T67, h67, X67, e67, W67, st67⟩ := stJ X59 hx hZ e59 Ar66 (j := (1:Int32)) hin66 (g := (mkF m 135 #[.val (.ref o0), .val (.ref o1), .val (.ref o2), .val (.long q3), .second, .val (.long q4), .second, .val (.long q5), .second, .val (.long (own_kl LL)), .second, .val (.int (1:Int32))] [(.long q4), (.int (1:Int32)), (.ref bg)])) rfl rfl (hb hby d6_135)
  have As67 : own_Arf Z h67 bg kg .long (1024:Int32) (.long (0:Int64)) := own_arfW hl66 Ar66 q66 S66 N66' H66 G66 rfl W67 hin66
  have N67 := Fr.snoc X67 N57 g_bg
  have Ff_68 : Fld Z h67 o0 "com/example/tavola/tavola/profile/RowBatch" "regularValues" "[J" (.ref bx) := (((((((Fa5.keep K7q (ninS ne_8 nin0)).other W12 (Or.inr (slot_ne (Or.inr (hw _ (oG (i := 46) rfl))) (Or.inl (hw _ (oG (i := 75) rfl))) (by decide) (t := (.array .long)) (t' := .int) (by decide) (by decide)))).other W16 (Or.inr (slot_ne (Or.inr (hw _ (oG (i := 46) rfl))) (Or.inl (hw _ (oG (i := 86) rfl))) (by decide) (t := (.array .long)) (t' := .int) (by decide) (by decide)))).other W25 (Or.inl (Ne.symm ne_22))).other W48 (Or.inl (Ne.symm ne_44))).other W57 (Or.inl (Ne.symm ne_52))).other W67 (Or.inl (Ne.symm ne_61)))
  obtain ⟨T69, X69, e69, st69⟩ := getF X67 hx hZ hown (host := "") (Or.inl (hw _ (oG (i := 45) rfl))) Via.refl e67 Ff_68 (g := (mkF m 137 #[.val (.ref o0), .val (.ref o1), .val (.ref o2), .val (.long q3), .second, .val (.long q4), .second, .val (.long q5), .second, .val (.long (own_kl LL)), .second, .val (.int (1:Int32))] [(.ref o0)])) rfl rfl (hb hby d6_137)
  have ne_70 : bx ≠ bk := by omega
  have ne_71 : bx ≠ o0 := by omega
  have ne_72 : bx ≠ be := by omega
  have ne_73 : bx ≠ bh := by omega
  have ne_74 : bx ≠ bf := by omega
  have ne_75 : bx ≠ bg := by omega
  have Aa_76 : own_Arf Z h67 bx kx .long (1024:Int32) (.long (0:Int64)) := (own_arfO (own_arfO (own_arfO (own_arfO (own_arfO (own_arfO (own_arfK Va5 K7q (ninS ne_70 nin0)) W12 ne_71) W16 ne_71) W25 ne_72) W48 ne_73) W57 ne_74) W67 ne_75)
  obtain ⟨vs77, hl77, cl77, Ar77, q77, S77, N77', H77, G77⟩ := id Aa_76
  have hin77 : ¬ ((1:Int32) < 0 ∨ cl77.slots.size ≤ ((1:Int32)).toNatClampNeg) := inb_of S77 ⟨by decide, by decide⟩
  obtain ⟨T78, h78, X78, e78, W78, st78⟩ := stJ X69 hx hZ e69 Ar77 (j := (1:Int32)) hin77 (g := (mkF m 144 #[.val (.ref o0), .val (.ref o1), .val (.ref o2), .val (.long q3), .second, .val (.long q4), .second, .val (.long q5), .second, .val (.long (own_kl LL)), .second, .val (.int (1:Int32))] [(.long q5), (.int (1:Int32)), (.ref bx)])) rfl rfl (hb hby d6_144)
  have As78 : own_Arf Z h78 bx kx .long (1024:Int32) (.long (0:Int64)) := own_arfW hl77 Ar77 q77 S77 N77' H77 G77 rfl W78 hin77
  have N78 := Fr.snoc X78 N67 g_bx
  have Ff_79 : Fld Z h78 o0 "com/example/tavola/tavola/profile/RowBatch" "statics" "[I" (.ref bs) := ((((((((Fa6.keep K7q (ninS ne_8 nin0)).other W12 (Or.inr (slot_ne (Or.inr (hw _ (oG (i := 50) rfl))) (Or.inl (hw _ (oG (i := 75) rfl))) (by decide) (t := (.array .int)) (t' := .int) (by decide) (by decide)))).other W16 (Or.inr (slot_ne (Or.inr (hw _ (oG (i := 50) rfl))) (Or.inl (hw _ (oG (i := 86) rfl))) (by decide) (t := (.array .int)) (t' := .int) (by decide) (by decide)))).other W25 (Or.inl (Ne.symm ne_22))).other W48 (Or.inl (Ne.symm ne_44))).other W57 (Or.inl (Ne.symm ne_52))).other W67 (Or.inl (Ne.symm ne_61))).other W78 (Or.inl (Ne.symm ne_71)))
  obtain ⟨T80, X80, e80, st80⟩ := getF X78 hx hZ hown (host := "") (Or.inl (hw _ (oG (i := 49) rfl))) Via.refl e78 Ff_79 (g := (mkF m 146 #[.val (.ref o0), .val (.ref o1), .val (.ref o2), .val (.long q3), .second, .val (.long q4), .second, .val (.long q5), .second, .val (.long (own_kl LL)), .second, .val (.int (1:Int32))] [(.ref o0)])) rfl rfl (hb hby d6_146)
  have Ff_81 : Fld Z h78 o0 "com/example/tavola/tavola/profile/RowBatch" "staticColumns" "I" (.int sc) := ((((((((Fi0.keep K7q (ninS ne_8 nin0)).other W12 (Or.inr (slot_ne (Or.inr (hw _ (oG (i := 48) rfl))) (Or.inl (hw _ (oG (i := 75) rfl))) (by decide) (t := .int) (t' := .int) (by decide) (by decide)))).other W16 (Or.inr (slot_ne (Or.inr (hw _ (oG (i := 48) rfl))) (Or.inl (hw _ (oG (i := 86) rfl))) (by decide) (t := .int) (t' := .int) (by decide) (by decide)))).other W25 (Or.inl (Ne.symm ne_22))).other W48 (Or.inl (Ne.symm ne_44))).other W57 (Or.inl (Ne.symm ne_52))).other W67 (Or.inl (Ne.symm ne_61))).other W78 (Or.inl (Ne.symm ne_71)))
  obtain ⟨T82, X82, e82, st82⟩ := getF X80 hx hZ hown (host := "") (Or.inl (hw _ (oG (i := 47) rfl))) Via.refl e80 Ff_81 (g := (mkF m 152 #[.val (.ref o0), .val (.ref o1), .val (.ref o2), .val (.long q3), .second, .val (.long q4), .second, .val (.long q5), .second, .val (.long (own_kl LL)), .second, .val (.int (1:Int32))] [(.ref o0), (.int (1:Int32)), (.ref bs)])) rfl rfl (hb hby d6_152)
  obtain ⟨T83, X83, e83, st83⟩ := getF X82 hx hZ hown (host := "") (Or.inl (hw _ (oG (i := 47) rfl))) Via.refl e82 Ff_81 (g := (mkF m 161 #[.val (.ref o0), .val (.ref o1), .val (.ref o2), .val (.long q3), .second, .val (.long q4), .second, .val (.long q5), .second, .val (.long (own_kl LL)), .second, .val (.int (1:Int32))] [(.ref o0), (.int (2:Int32)), (.int ((1:Int32) * sc)), (.ref bs)])) rfl rfl (hb hby d6_161)
  have hfl := own_fill (1:Int32) (2:Int32) (by decide) hsc
  have Zz_85 : n0 ≤ h78.size := (Nat.le_trans (Nat.le_trans (Nat.le_trans (Nat.le_trans Zz_29 (Keep.of_wr W48).1) (Keep.of_wr W57).1) (Keep.of_wr W67).1) (Keep.of_wr W78).1)
  have ne_86 : bs ≠ bk := by omega
  have ne_87 : bs ≠ o0 := by omega
  have ne_88 : bs ≠ be := by omega
  have ne_89 : bs ≠ bh := by omega
  have ne_90 : bs ≠ bf := by omega
  have ne_91 : bs ≠ bg := by omega
  have ne_92 : bs ≠ bx := by omega
  have Aa_93 : own_Arf Z h78 bs ks .int ((1024:Int32) * sc) (.int (0:Int32)) := (own_arfO (own_arfO (own_arfO (own_arfO (own_arfO (own_arfO (own_arfO (own_arfK Va6 K7q (ninS ne_86 nin0)) W12 ne_87) W16 ne_87) W25 ne_88) W48 ne_89) W57 ne_90) W67 ne_91) W78 ne_92)
  obtain ⟨_, _, ⟨T84, L84, k84, n84⟩, -, X84, ⟨Lc84, hQ84, l84, y84, z84⟩, st84⟩ := Jvm.LawKit.callS X83 hx (y := (⟨"java/util/Arrays", "fill", "([IIII)V"⟩ : MethodName)) hown (mvT hZ (hw _ (oG (i := 92) rfl))) (mvT hZ (hw _ (oG (i := 93) rfl))) (mvT hZ (hw _ (oG (i := 94) rfl))) (mvT hZ (hw _ (oG (i := 95) rfl))) (by decide) (backOf (W := 0) (rm11 l Z aw hw [] bs ((1:Int32) * sc) ((2:Int32) * sc) (-1:Int32) ks ((1024:Int32) * sc) h78 n0 Zz_85 Aa_93 g_bs hfl.1 hfl.2.1 hfl.2.2.1 hfl.2.2.2) hZ (hw _ (oG (i := 95) rfl)) (hw _ (oG (i := 94) rfl)) (by decide) (by decide)) (g := (mkF m 166 #[.val (.ref o0), .val (.ref o1), .val (.ref o2), .val (.long q3), .second, .val (.long q4), .second, .val (.long q5), .second, .val (.long (own_kl LL)), .second, .val (.int (1:Int32))] [(.int (-1:Int32)), (.int ((2:Int32) * sc)), (.int ((1:Int32) * sc)), (.ref bs)])) rfl (by rw [hml]; rfl) (argsL := [(.ref bs), (.int ((1:Int32) * sc)), (.int ((2:Int32) * sc)), (.int (-1:Int32))]) (rest := []) (lenOf pd_rm6_1_3 rfl) rfl (by show 2 * 0 + _ ≤ _; exact Nat.le_of_eq rfl) (hb hby d6_166) (fun _ _ => ⟨rfl, e83, (by decide : 0 + 0 ≤ _), (by decide : 0 + 0 ≤ _)⟩)
  dsimp only [Pt.U, Pt.locs, Pt.cells, Pt.slots] at X84 l84 y84 z84 st84 hQ84
  subst l84 y84 z84
  obtain ⟨rfl, N84q, K84q, A84q⟩ := hQ84
  have N84 := Fr.app N78 N84q
  have Kk_94 : Keep h0 T84.heap [o0, bk, be, bh, bf, bg, bx, bs] := ((((((((((Keep.refl h0 [o0, bk, be, bh, bf, bg, bx, bs]).trans K7q (allS (Or.inl (oG (i := 1) rfl)) all0)).wr W12 (Or.inl (oG (i := 0) rfl))).wr W16 (Or.inl (oG (i := 0) rfl))).wr W25 (Or.inl (oG (i := 2) rfl))).wr W48 (Or.inl (oG (i := 3) rfl))).wr W57 (Or.inl (oG (i := 4) rfl))).wr W67 (Or.inl (oG (i := 5) rfl))).wr W78 (Or.inl (oG (i := 6) rfl))).trans K84q (allS (Or.inl (oG (i := 7) rfl)) all0))
  have Ff_95 : Fld Z T84.heap o0 "com/example/tavola/tavola/profile/RowBatch" "staticColumns" "I" (.int sc) := (Ff_81.keep K84q (ninS (Ne.symm ne_87) nin0))
  have Ff_96 : Fld Z T84.heap o0 "com/example/tavola/tavola/profile/RowBatch" "keysLength" "I" (.int (ss + ((own_kl LL).toInt32))) := ((((((Ff_19.other W25 (Or.inl (Ne.symm ne_22))).other W48 (Or.inl (Ne.symm ne_44))).other W57 (Or.inl (Ne.symm ne_52))).other W67 (Or.inl (Ne.symm ne_61))).other W78 (Or.inl (Ne.symm ne_71))).keep K84q (ninS (Ne.symm ne_87) nin0))
  have Ff_97 : Fld Z T84.heap o0 "com/example/tavola/tavola/profile/RowBatch" "count" "I" (.int (2:Int32)) := ((((((Fw16.other W25 (Or.inl (Ne.symm ne_22))).other W48 (Or.inl (Ne.symm ne_44))).other W57 (Or.inl (Ne.symm ne_52))).other W67 (Or.inl (Ne.symm ne_61))).other W78 (Or.inl (Ne.symm ne_71))).keep K84q (ninS (Ne.symm ne_87) nin0))
  have Ff_98 : Fld Z T84.heap o0 "com/example/tavola/tavola/profile/RowBatch" "keys" "[B" (.ref bk) := (((((((((Fa0.keep K7q (ninS ne_8 nin0)).other W12 (Or.inr (slot_ne (Or.inl (hw _ (oG (i := 35) rfl))) (Or.inl (hw _ (oG (i := 75) rfl))) (by decide) (t := (.array .byte)) (t' := .int) (by decide) (by decide)))).other W16 (Or.inr (slot_ne (Or.inl (hw _ (oG (i := 35) rfl))) (Or.inl (hw _ (oG (i := 86) rfl))) (by decide) (t := (.array .byte)) (t' := .int) (by decide) (by decide)))).other W25 (Or.inl (Ne.symm ne_22))).other W48 (Or.inl (Ne.symm ne_44))).other W57 (Or.inl (Ne.symm ne_52))).other W67 (Or.inl (Ne.symm ne_61))).other W78 (Or.inl (Ne.symm ne_71))).keep K84q (ninS (Ne.symm ne_87) nin0))
  have Ff_99 : Fld Z T84.heap o0 "com/example/tavola/tavola/profile/RowBatch" "keyEnds" "[I" (.ref be) := ((((((Ff_17.other W25 (Or.inl (Ne.symm ne_22))).other W48 (Or.inl (Ne.symm ne_44))).other W57 (Or.inl (Ne.symm ne_52))).other W67 (Or.inl (Ne.symm ne_61))).other W78 (Or.inl (Ne.symm ne_71))).keep K84q (ninS (Ne.symm ne_87) nin0))
  have Ff_100 : Fld Z T84.heap o0 "com/example/tavola/tavola/profile/RowBatch" "hashes" "[I" (.ref bh) := (((((Ff_26.other W48 (Or.inl (Ne.symm ne_44))).other W57 (Or.inl (Ne.symm ne_52))).other W67 (Or.inl (Ne.symm ne_61))).other W78 (Or.inl (Ne.symm ne_71))).keep K84q (ninS (Ne.symm ne_87) nin0))
  have Ff_101 : Fld Z T84.heap o0 "com/example/tavola/tavola/profile/RowBatch" "keyBytes" "[J" (.ref bf) := ((((Ff_49.other W57 (Or.inl (Ne.symm ne_52))).other W67 (Or.inl (Ne.symm ne_61))).other W78 (Or.inl (Ne.symm ne_71))).keep K84q (ninS (Ne.symm ne_87) nin0))
  have Ff_102 : Fld Z T84.heap o0 "com/example/tavola/tavola/profile/RowBatch" "rowBytes" "[J" (.ref bg) := (((Ff_58.other W67 (Or.inl (Ne.symm ne_61))).other W78 (Or.inl (Ne.symm ne_71))).keep K84q (ninS (Ne.symm ne_87) nin0))
  have Ff_103 : Fld Z T84.heap o0 "com/example/tavola/tavola/profile/RowBatch" "regularValues" "[J" (.ref bx) := ((Ff_68.other W78 (Or.inl (Ne.symm ne_71))).keep K84q (ninS (Ne.symm ne_87) nin0))
  have Ff_104 : Fld Z T84.heap o0 "com/example/tavola/tavola/profile/RowBatch" "statics" "[I" (.ref bs) := (Ff_79.keep K84q (ninS (Ne.symm ne_87) nin0))
  have Aa_105 : own_Arf Z T84.heap bk kk .byte (65536:Int32) (.int (0:Int32)) := (own_arfK (own_arfO (own_arfO (own_arfO (own_arfO (own_arfO (own_arfO (own_arfO A7q W12 (Ne.symm ne_8)) W16 (Ne.symm ne_8)) W25 (Ne.symm ne_21)) W48 (Ne.symm ne_43)) W57 (Ne.symm ne_51)) W67 (Ne.symm ne_60)) W78 (Ne.symm ne_70)) K84q (ninS (Ne.symm ne_86) nin0))
  have Va_106 : Arv Z T84.heap be ke .int (1024:Int32) [(.int u0), (.int (ss + ((own_kl LL).toInt32))), (.int u2)] (.int (0:Int32)) := (((((Vs25.other W48 (Ne.symm ne_45)).other W57 (Ne.symm ne_53)).other W67 (Ne.symm ne_62)).other W78 (Ne.symm ne_72)).keep K84q (ninS (Ne.symm ne_88) nin0))
  have Aa_107 : own_Arf Z T84.heap bh kh .int (1024:Int32) (.int (0:Int32)) := (own_arfK (own_arfO (own_arfO (own_arfO As48 W57 (Ne.symm ne_54)) W67 (Ne.symm ne_63)) W78 (Ne.symm ne_73)) K84q (ninS (Ne.symm ne_89) nin0))
  have Aa_108 : own_Arf Z T84.heap bf kf .long (1024:Int32) (.long (0:Int64)) := (own_arfK (own_arfO (own_arfO As57 W67 (Ne.symm ne_64)) W78 (Ne.symm ne_74)) K84q (ninS (Ne.symm ne_90) nin0))
  have Aa_109 : own_Arf Z T84.heap bg kg .long (1024:Int32) (.long (0:Int64)) := (own_arfK (own_arfO As67 W78 (Ne.symm ne_75)) K84q (ninS (Ne.symm ne_91) nin0))
  have Aa_110 : own_Arf Z T84.heap bx kx .long (1024:Int32) (.long (0:Int64)) := (own_arfK As78 K84q (ninS (Ne.symm ne_92) nin0))
  obtain ⟨fs, hr, hrun, hended, hW, hsame⟩ := X84.leave (v := some (.int (1:Int32))) (fun h => by rw [Bd.returns] at h; cases h)
  refine ⟨_, _, pre0 _ ?_, hrun, hended, _, _, rfl, ?_, ⟨_, rfl⟩, hW, hsame.mono (by decide) (by decide)⟩
  · show Steps p.tables e below (s₁.setTop (mkF m 0 #[.val (.ref o0), .val (.ref o1), .val (.ref o2), .val (.long q3), .second, .val (.long q4), .second, .val (.long q5), .second, .unset, .unset, .unset] [])) _
    refine XS.aloadN X0.here hx rfl (hb hby d6_0) rfl rfl ?_
    refine XS.aloadN X0.here hx rfl (hb hby d6_1) rfl rfl ?_
    show Steps p.tables e below (s₁.setTop (mkF m 2 #[.val (.ref o0), .val (.ref o1), .val (.ref o2), .val (.long q3), .second, .val (.long q4), .second, .val (.long q5), .second, .unset, .unset, .unset] [(.ref o2), (.ref o1)])) _
    refine st1.trans ?_
    show Steps p.tables e below (T1.setTop (mkF m 5 #[.val (.ref o0), .val (.ref o1), .val (.ref o2), .val (.long q3), .second, .val (.long q4), .second, .val (.long q5), .second, .unset, .unset, .unset] [(.long (own_kl LL))])) _
    refine XS.lstore X1.here hx rfl (hb hby d6_5) rfl (l' := #[.val (.ref o0), .val (.ref o1), .val (.ref o2), .val (.long q3), .second, .val (.long q4), .second, .val (.long q5), .second, .val (.long (own_kl LL)), .second, .unset]) rfl ?_
    refine XS.aloadN X1.here hx rfl (hb hby d6_7) rfl rfl ?_
    show Steps p.tables e below (T1.setTop (mkF m 8 #[.val (.ref o0), .val (.ref o1), .val (.ref o2), .val (.long q3), .second, .val (.long q4), .second, .val (.long q5), .second, .val (.long (own_kl LL)), .second, .unset] [(.ref o0)])) _
    refine st2 _ ?_
    show Steps p.tables e below (T2.setTop (mkF m 11 #[.val (.ref o0), .val (.ref o1), .val (.ref o2), .val (.long q3), .second, .val (.long q4), .second, .val (.long q5), .second, .val (.long (own_kl LL)), .second, .unset] [(.int ss)])) _
    refine XS.i2l X2.here hx rfl (hb hby d6_11) rfl ?_
    refine XS.lload X2.here hx rfl (hb hby d6_12) rfl ?_
    refine XS.ladd X2.here hx rfl (hb hby d6_14) rfl ?_
    refine XS.aloadN X2.here hx rfl (hb hby d6_15) rfl rfl ?_
    show Steps p.tables e below (T2.setTop (mkF m 16 #[.val (.ref o0), .val (.ref o1), .val (.ref o2), .val (.long q3), .second, .val (.long q4), .second, .val (.long q5), .second, .val (.long (own_kl LL)), .second, .unset] [(.ref o0), (.long ((ss.toInt64) + (own_kl LL)))])) _
    refine st3 _ ?_
    show Steps p.tables e below (T3.setTop (mkF m 19 #[.val (.ref o0), .val (.ref o1), .val (.ref o2), .val (.long q3), .second, .val (.long q4), .second, .val (.long q5), .second, .val (.long (own_kl LL)), .second, .unset] [(.ref bk), (.long ((ss.toInt64) + (own_kl LL)))])) _
    refine X3.arraylength hx (by rw [e3]; exact Ar4.1) (State.isArrayOf_alike hZ.alike Ar4.2.1) (g := (mkF m 19 #[.val (.ref o0), .val (.ref o1), .val (.ref o2), .val (.long q3), .second, .val (.long q4), .second, .val (.long q5), .second, .val (.long (own_kl LL)), .second, .unset] [(.ref bk), (.long ((ss.toInt64) + (own_kl LL)))])) rfl rfl (hb hby d6_19) _ ?_
    rw [len_of S4 N4']
    show Steps p.tables e below (T3.setTop (mkF m 20 #[.val (.ref o0), .val (.ref o1), .val (.ref o2), .val (.long q3), .second, .val (.long q4), .second, .val (.long q5), .second, .val (.long (own_kl LL)), .second, .unset] [(.int (65536:Int32)), (.long ((ss.toInt64) + (own_kl LL)))])) _
    refine XS.i2l X3.here hx rfl (hb hby d6_20) rfl ?_
    refine XS.lcmp X3.here hx rfl (hb hby d6_21) rfl ?_
    refine XS.ifYes X3.here hx rfl (pc0 := 22) (pc' := 58) rfl (hb hby d6_22) rfl ((if0 _ _).trans (flt (fun q => (own_b22 hp0 hp6 hL : ¬ (((65536:Int32).toInt64) < ((ss.toInt64) + (own_kl LL)))) ((lw_gt _ _).mp q))).2.2.2) (by decide) (by decide) ?_
    refine XS.aloadN X3.here hx rfl (hb hby d6_58) rfl rfl ?_
    refine XS.aloadN X3.here hx rfl (hb hby d6_59) rfl rfl ?_
    refine XS.aloadN X3.here hx rfl (hb hby d6_60) rfl rfl ?_
    show Steps p.tables e below (T3.setTop (mkF m 61 #[.val (.ref o0), .val (.ref o1), .val (.ref o2), .val (.long q3), .second, .val (.long q4), .second, .val (.long q5), .second, .val (.long (own_kl LL)), .second, .unset] [(.ref o0), (.ref o2), (.ref o1)])) _
    refine st5 _ ?_
    show Steps p.tables e below (T5.setTop (mkF m 64 #[.val (.ref o0), .val (.ref o1), .val (.ref o2), .val (.long q3), .second, .val (.long q4), .second, .val (.long q5), .second, .val (.long (own_kl LL)), .second, .unset] [(.ref bk), (.ref o2), (.ref o1)])) _
    refine XS.aloadN X5.here hx rfl (hb hby d6_64) rfl rfl ?_
    show Steps p.tables e below (T5.setTop (mkF m 65 #[.val (.ref o0), .val (.ref o1), .val (.ref o2), .val (.long q3), .second, .val (.long q4), .second, .val (.long q5), .second, .val (.long (own_kl LL)), .second, .unset] [(.ref o0), (.ref bk), (.ref o2), (.ref o1)])) _
    refine st6 _ ?_
    show Steps p.tables e below (T6.setTop (mkF m 68 #[.val (.ref o0), .val (.ref o1), .val (.ref o2), .val (.long q3), .second, .val (.long q4), .second, .val (.long q5), .second, .val (.long (own_kl LL)), .second, .unset] [(.int ss), (.ref bk), (.ref o2), (.ref o1)])) _
    refine st7.trans ?_
    show Steps p.tables e below (T7.setTop (mkF m 71 #[.val (.ref o0), .val (.ref o1), .val (.ref o2), .val (.long q3), .second, .val (.long q4), .second, .val (.long q5), .second, .val (.long (own_kl LL)), .second, .unset] [])) _
    refine XS.aloadN X7.here hx rfl (hb hby d6_71) rfl rfl ?_
    refine XS.dup X7.here hx rfl (hb hby d6_72) rfl rfl ?_
    show Steps p.tables e below (T7.setTop (mkF m 73 #[.val (.ref o0), .val (.ref o1), .val (.ref o2), .val (.long q3), .second, .val (.long q4), .second, .val (.long q5), .second, .val (.long (own_kl LL)), .second, .unset] [(.ref o0), (.ref o0)])) _
    refine st10 _ ?_
    show Steps p.tables e below (T10.setTop (mkF m 76 #[.val (.ref o0), .val (.ref o1), .val (.ref o2), .val (.long q3), .second, .val (.long q4), .second, .val (.long q5), .second, .val (.long (own_kl LL)), .second, .unset] [(.int ss), (.ref o0)])) _
    refine XS.lload X10.here hx rfl (hb hby d6_76) rfl ?_
    refine XS.l2i X10.here hx rfl (hb hby d6_78) rfl ?_
    refine XS.iadd X10.here hx rfl (hb hby d6_79) rfl ?_
    show Steps p.tables e below (T10.setTop (mkF m 80 #[.val (.ref o0), .val (.ref o1), .val (.ref o2), .val (.long q3), .second, .val (.long q4), .second, .val (.long q5), .second, .val (.long (own_kl LL)), .second, .unset] [(.int (ss + ((own_kl LL).toInt32))), (.ref o0)])) _
    refine st12 _ ?_
    show Steps p.tables e below (T12.setTop (mkF m 83 #[.val (.ref o0), .val (.ref o1), .val (.ref o2), .val (.long q3), .second, .val (.long q4), .second, .val (.long q5), .second, .val (.long (own_kl LL)), .second, .unset] [])) _
    refine XS.aloadN X12.here hx rfl (hb hby d6_83) rfl rfl ?_
    refine XS.dup X12.here hx rfl (hb hby d6_84) rfl rfl ?_
    show Steps p.tables e below (T12.setTop (mkF m 85 #[.val (.ref o0), .val (.ref o1), .val (.ref o2), .val (.long q3), .second, .val (.long q4), .second, .val (.long q5), .second, .val (.long (own_kl LL)), .second, .unset] [(.ref o0), (.ref o0)])) _
    refine st14 _ ?_
    show Steps p.tables e below (T14.setTop (mkF m 88 #[.val (.ref o0), .val (.ref o1), .val (.ref o2), .val (.long q3), .second, .val (.long q4), .second, .val (.long q5), .second, .val (.long (own_kl LL)), .second, .unset] [(.int (1:Int32)), (.ref o0)])) _
    refine XS.dupX1 X14.here hx rfl (hb hby d6_88) rfl rfl rfl ?_
    refine XS.iconst X14.here hx rfl (hb hby d6_89) ?_
    show Steps p.tables e below (T14.setTop (mkF m 90 #[.val (.ref o0), .val (.ref o1), .val (.ref o2), .val (.long q3), .second, .val (.long q4), .second, .val (.long q5), .second, .val (.long (own_kl LL)), .second, .unset] [(.int (1:Int32)), (.int (1:Int32)), (.ref o0), (.int (1:Int32))])) _
    refine XS.iadd X14.here hx rfl (hb hby d6_90) rfl ?_
    rw [show ((1:Int32) + (1:Int32)) = (2:Int32) from by decide]
    show Steps p.tables e below (T14.setTop (mkF m 91 #[.val (.ref o0), .val (.ref o1), .val (.ref o2), .val (.long q3), .second, .val (.long q4), .second, .val (.long q5), .second, .val (.long (own_kl LL)), .second, .unset] [(.int (2:Int32)), (.ref o0), (.int (1:Int32))])) _
    refine st16 _ ?_
    show Steps p.tables e below (T16.setTop (mkF m 94 #[.val (.ref o0), .val (.ref o1), .val (.ref o2), .val (.long q3), .second, .val (.long q4), .second, .val (.long q5), .second, .val (.long (own_kl LL)), .second, .unset] [(.int (1:Int32))])) _
    refine XS.istore X16.here hx rfl (hb hby d6_94) rfl (l' := #[.val (.ref o0), .val (.ref o1), .val (.ref o2), .val (.long q3), .second, .val (.long q4), .second, .val (.long q5), .second, .val (.long (own_kl LL)), .second, .val (.int (1:Int32))]) rfl ?_
    refine XS.aloadN X16.here hx rfl (hb hby d6_96) rfl rfl ?_
    show Steps p.tables e below (T16.setTop (mkF m 97 #[.val (.ref o0), .val (.ref o1), .val (.ref o2), .val (.long q3), .second, .val (.long q4), .second, .val (.long q5), .second, .val (.long (own_kl LL)), .second, .val (.int (1:Int32))] [(.ref o0)])) _
    refine st18 _ ?_
    show Steps p.tables e below (T18.setTop (mkF m 100 #[.val (.ref o0), .val (.ref o1), .val (.ref o2), .val (.long q3), .second, .val (.long q4), .second, .val (.long q5), .second, .val (.long (own_kl LL)), .second, .val (.int (1:Int32))] [(.ref be)])) _
    refine XS.iload X18.here hx rfl (hb hby d6_100) rfl ?_
    refine XS.aloadN X18.here hx rfl (hb hby d6_102) rfl rfl ?_
    show Steps p.tables e below (T18.setTop (mkF m 103 #[.val (.ref o0), .val (.ref o1), .val (.ref o2), .val (.long q3), .second, .val (.long q4), .second, .val (.long q5), .second, .val (.long (own_kl LL)), .second, .val (.int (1:Int32))] [(.ref o0), (.int (1:Int32)), (.ref be)])) _
    refine st20 _ ?_
    show Steps p.tables e below (T20.setTop (mkF m 106 #[.val (.ref o0), .val (.ref o1), .val (.ref o2), .val (.long q3), .second, .val (.long q4), .second, .val (.long q5), .second, .val (.long (own_kl LL)), .second, .val (.int (1:Int32))] [(.int (ss + ((own_kl LL).toInt32))), (.int (1:Int32)), (.ref be)])) _
    refine st25 _ ?_
    show Steps p.tables e below (T25.setTop (mkF m 107 #[.val (.ref o0), .val (.ref o1), .val (.ref o2), .val (.long q3), .second, .val (.long q4), .second, .val (.long q5), .second, .val (.long (own_kl LL)), .second, .val (.int (1:Int32))] [])) _
    refine XS.aloadN X25.here hx rfl (hb hby d6_107) rfl rfl ?_
    show Steps p.tables e below (T25.setTop (mkF m 108 #[.val (.ref o0), .val (.ref o1), .val (.ref o2), .val (.long q3), .second, .val (.long q4), .second, .val (.long q5), .second, .val (.long (own_kl LL)), .second, .val (.int (1:Int32))] [(.ref o0)])) _
    refine st27 _ ?_
    show Steps p.tables e below (T27.setTop (mkF m 111 #[.val (.ref o0), .val (.ref o1), .val (.ref o2), .val (.long q3), .second, .val (.long q4), .second, .val (.long q5), .second, .val (.long (own_kl LL)), .second, .val (.int (1:Int32))] [(.ref bh)])) _
    refine XS.iload X27.here hx rfl (hb hby d6_111) rfl ?_
    refine XS.aloadN X27.here hx rfl (hb hby d6_113) rfl rfl ?_
    refine XS.aloadN X27.here hx rfl (hb hby d6_114) rfl rfl ?_
    show Steps p.tables e below (T27.setTop (mkF m 115 #[.val (.ref o0), .val (.ref o1), .val (.ref o2), .val (.long q3), .second, .val (.long q4), .second, .val (.long q5), .second, .val (.long (own_kl LL)), .second, .val (.int (1:Int32))] [(.ref o2), (.ref o1), (.int (1:Int32)), (.ref bh)])) _
    refine st28.trans ?_
    show Steps p.tables e below (T28.setTop (mkF m 118 #[.val (.ref o0), .val (.ref o1), .val (.ref o2), .val (.long q3), .second, .val (.long q4), .second, .val (.long q5), .second, .val (.long (own_kl LL)), .second, .val (.int (1:Int32))] [(.int (0:Int32)), (.int (1:Int32)), (.ref bh)])) _
    refine st48 _ ?_
    show Steps p.tables e below (T48.setTop (mkF m 119 #[.val (.ref o0), .val (.ref o1), .val (.ref o2), .val (.long q3), .second, .val (.long q4), .second, .val (.long q5), .second, .val (.long (own_kl LL)), .second, .val (.int (1:Int32))] [])) _
    refine XS.aloadN X48.here hx rfl (hb hby d6_119) rfl rfl ?_
    show Steps p.tables e below (T48.setTop (mkF m 120 #[.val (.ref o0), .val (.ref o1), .val (.ref o2), .val (.long q3), .second, .val (.long q4), .second, .val (.long q5), .second, .val (.long (own_kl LL)), .second, .val (.int (1:Int32))] [(.ref o0)])) _
    refine st50 _ ?_
    show Steps p.tables e below (T50.setTop (mkF m 123 #[.val (.ref o0), .val (.ref o1), .val (.ref o2), .val (.long q3), .second, .val (.long q4), .second, .val (.long q5), .second, .val (.long (own_kl LL)), .second, .val (.int (1:Int32))] [(.ref bf)])) _
    refine XS.iload X50.here hx rfl (hb hby d6_123) rfl ?_
    refine XS.lloadN X50.here hx rfl (hb hby d6_125) rfl ?_
    show Steps p.tables e below (T50.setTop (mkF m 126 #[.val (.ref o0), .val (.ref o1), .val (.ref o2), .val (.long q3), .second, .val (.long q4), .second, .val (.long q5), .second, .val (.long (own_kl LL)), .second, .val (.int (1:Int32))] [(.long q3), (.int (1:Int32)), (.ref bf)])) _
    refine st57 _ ?_
    show Steps p.tables e below (T57.setTop (mkF m 127 #[.val (.ref o0), .val (.ref o1), .val (.ref o2), .val (.long q3), .second, .val (.long q4), .second, .val (.long q5), .second, .val (.long (own_kl LL)), .second, .val (.int (1:Int32))] [])) _
    refine XS.aloadN X57.here hx rfl (hb hby d6_127) rfl rfl ?_
    show Steps p.tables e below (T57.setTop (mkF m 128 #[.val (.ref o0), .val (.ref o1), .val (.ref o2), .val (.long q3), .second, .val (.long q4), .second, .val (.long q5), .second, .val (.long (own_kl LL)), .second, .val (.int (1:Int32))] [(.ref o0)])) _
    refine st59 _ ?_
    show Steps p.tables e below (T59.setTop (mkF m 131 #[.val (.ref o0), .val (.ref o1), .val (.ref o2), .val (.long q3), .second, .val (.long q4), .second, .val (.long q5), .second, .val (.long (own_kl LL)), .second, .val (.int (1:Int32))] [(.ref bg)])) _
    refine XS.iload X59.here hx rfl (hb hby d6_131) rfl ?_
    refine XS.lload X59.here hx rfl (hb hby d6_133) rfl ?_
    show Steps p.tables e below (T59.setTop (mkF m 135 #[.val (.ref o0), .val (.ref o1), .val (.ref o2), .val (.long q3), .second, .val (.long q4), .second, .val (.long q5), .second, .val (.long (own_kl LL)), .second, .val (.int (1:Int32))] [(.long q4), (.int (1:Int32)), (.ref bg)])) _
    refine st67 _ ?_
    show Steps p.tables e below (T67.setTop (mkF m 136 #[.val (.ref o0), .val (.ref o1), .val (.ref o2), .val (.long q3), .second, .val (.long q4), .second, .val (.long q5), .second, .val (.long (own_kl LL)), .second, .val (.int (1:Int32))] [])) _
    refine XS.aloadN X67.here hx rfl (hb hby d6_136) rfl rfl ?_
    show Steps p.tables e below (T67.setTop (mkF m 137 #[.val (.ref o0), .val (.ref o1), .val (.ref o2), .val (.long q3), .second, .val (.long q4), .second, .val (.long q5), .second, .val (.long (own_kl LL)), .second, .val (.int (1:Int32))] [(.ref o0)])) _
    refine st69 _ ?_
    show Steps p.tables e below (T69.setTop (mkF m 140 #[.val (.ref o0), .val (.ref o1), .val (.ref o2), .val (.long q3), .second, .val (.long q4), .second, .val (.long q5), .second, .val (.long (own_kl LL)), .second, .val (.int (1:Int32))] [(.ref bx)])) _
    refine XS.iload X69.here hx rfl (hb hby d6_140) rfl ?_
    refine XS.lload X69.here hx rfl (hb hby d6_142) rfl ?_
    show Steps p.tables e below (T69.setTop (mkF m 144 #[.val (.ref o0), .val (.ref o1), .val (.ref o2), .val (.long q3), .second, .val (.long q4), .second, .val (.long q5), .second, .val (.long (own_kl LL)), .second, .val (.int (1:Int32))] [(.long q5), (.int (1:Int32)), (.ref bx)])) _
    refine st78 _ ?_
    show Steps p.tables e below (T78.setTop (mkF m 145 #[.val (.ref o0), .val (.ref o1), .val (.ref o2), .val (.long q3), .second, .val (.long q4), .second, .val (.long q5), .second, .val (.long (own_kl LL)), .second, .val (.int (1:Int32))] [])) _
    refine XS.aloadN X78.here hx rfl (hb hby d6_145) rfl rfl ?_
    show Steps p.tables e below (T78.setTop (mkF m 146 #[.val (.ref o0), .val (.ref o1), .val (.ref o2), .val (.long q3), .second, .val (.long q4), .second, .val (.long q5), .second, .val (.long (own_kl LL)), .second, .val (.int (1:Int32))] [(.ref o0)])) _
    refine st80 _ ?_
    show Steps p.tables e below (T80.setTop (mkF m 149 #[.val (.ref o0), .val (.ref o1), .val (.ref o2), .val (.long q3), .second, .val (.long q4), .second, .val (.long q5), .second, .val (.long (own_kl LL)), .second, .val (.int (1:Int32))] [(.ref bs)])) _
    refine XS.iload X80.here hx rfl (hb hby d6_149) rfl ?_
    refine XS.aloadN X80.here hx rfl (hb hby d6_151) rfl rfl ?_
    show Steps p.tables e below (T80.setTop (mkF m 152 #[.val (.ref o0), .val (.ref o1), .val (.ref o2), .val (.long q3), .second, .val (.long q4), .second, .val (.long q5), .second, .val (.long (own_kl LL)), .second, .val (.int (1:Int32))] [(.ref o0), (.int (1:Int32)), (.ref bs)])) _
    refine st82 _ ?_
    show Steps p.tables e below (T82.setTop (mkF m 155 #[.val (.ref o0), .val (.ref o1), .val (.ref o2), .val (.long q3), .second, .val (.long q4), .second, .val (.long q5), .second, .val (.long (own_kl LL)), .second, .val (.int (1:Int32))] [(.int sc), (.int (1:Int32)), (.ref bs)])) _
    refine XS.imul X82.here hx rfl (hb hby d6_155) rfl ?_
    refine XS.iload X82.here hx rfl (hb hby d6_156) rfl ?_
    refine XS.iconst X82.here hx rfl (hb hby d6_158) ?_
    show Steps p.tables e below (T82.setTop (mkF m 159 #[.val (.ref o0), .val (.ref o1), .val (.ref o2), .val (.long q3), .second, .val (.long q4), .second, .val (.long q5), .second, .val (.long (own_kl LL)), .second, .val (.int (1:Int32))] [(.int (1:Int32)), (.int (1:Int32)), (.int ((1:Int32) * sc)), (.ref bs)])) _
    refine XS.iadd X82.here hx rfl (hb hby d6_159) rfl ?_
    rw [show ((1:Int32) + (1:Int32)) = (2:Int32) from by decide]
    show Steps p.tables e below (T82.setTop (mkF m 160 #[.val (.ref o0), .val (.ref o1), .val (.ref o2), .val (.long q3), .second, .val (.long q4), .second, .val (.long q5), .second, .val (.long (own_kl LL)), .second, .val (.int (1:Int32))] [(.int (2:Int32)), (.int ((1:Int32) * sc)), (.ref bs)])) _
    refine XS.aloadN X82.here hx rfl (hb hby d6_160) rfl rfl ?_
    show Steps p.tables e below (T82.setTop (mkF m 161 #[.val (.ref o0), .val (.ref o1), .val (.ref o2), .val (.long q3), .second, .val (.long q4), .second, .val (.long q5), .second, .val (.long (own_kl LL)), .second, .val (.int (1:Int32))] [(.ref o0), (.int (2:Int32)), (.int ((1:Int32) * sc)), (.ref bs)])) _
    refine st83 _ ?_
    show Steps p.tables e below (T83.setTop (mkF m 164 #[.val (.ref o0), .val (.ref o1), .val (.ref o2), .val (.long q3), .second, .val (.long q4), .second, .val (.long q5), .second, .val (.long (own_kl LL)), .second, .val (.int (1:Int32))] [(.int sc), (.int (2:Int32)), (.int ((1:Int32) * sc)), (.ref bs)])) _
    refine XS.imul X83.here hx rfl (hb hby d6_164) rfl ?_
    refine XS.iconst X83.here hx rfl (hb hby d6_165) ?_
    show Steps p.tables e below (T83.setTop (mkF m 166 #[.val (.ref o0), .val (.ref o1), .val (.ref o2), .val (.long q3), .second, .val (.long q4), .second, .val (.long q5), .second, .val (.long (own_kl LL)), .second, .val (.int (1:Int32))] [(.int (-1:Int32)), (.int ((2:Int32) * sc)), (.int ((1:Int32) * sc)), (.ref bs)])) _
    refine st84 _ ?_
    show Steps p.tables e below (T84.setTop (mkF m 169 #[.val (.ref o0), .val (.ref o1), .val (.ref o2), .val (.long q3), .second, .val (.long q4), .second, .val (.long q5), .second, .val (.long (own_kl LL)), .second, .val (.int (1:Int32))] [])) _
    refine XS.iload X84.here hx rfl (hb hby d6_169) rfl ?_
    show Steps p.tables e below (T84.setTop (mkF m 171 #[.val (.ref o0), .val (.ref o1), .val (.ref o2), .val (.long q3), .second, .val (.long q4), .second, .val (.long q5), .second, .val (.long (own_kl LL)), .second, .val (.int (1:Int32))] [(.int (1:Int32))])) _
    exact retI X84 hx Bd.returns (hb hby d6_171) hr
  · show rm6_1Q Z o0 bn br bk be bh bf bg bx bs kn kr k1 kk ke kh kf kg kx ks LL sc ss u0 u1 u2 h0 n0 _ T84.heap _
    exact ⟨rfl, N84, Kk_94, Ff_95, Ff_96, Ff_97, Ff_98, Ff_99, Ff_100, Ff_101, Ff_102, Ff_103, Ff_104, Aa_105, Va_106, Aa_107, Aa_108, Aa_109, Aa_110, A84q⟩
theorem pd_rm6_2_0 : parseMethodDescriptor "([I)J" = some ⟨[(.array .int)], some .long⟩ := by decide +kernel
theorem pd_rm6_2_1 : parseMethodDescriptor "([I[BI)V" = some ⟨[(.array .int), (.array .byte), .int], none⟩ := by decide +kernel
theorem pd_rm6_2_2 : parseMethodDescriptor "([I)I" = some ⟨[(.array .int)], some .int⟩ := by decide +kernel
theorem pd_rm6_2_3 : parseMethodDescriptor "([IIII)V" = some ⟨[(.array .int), .int, .int, .int], none⟩ := by decide +kernel
theorem ef_rm6_2 (m : MethodId) (o0 : Nat) (o1 : Nat) (o2 : Nat) (q3 : Int64) (q4 : Int64) (q5 : Int64) : entryFrame m #[(.ref o0), (.ref o1), (.ref o2), (.long q3), (.long q4), (.long q5)] 12 = mkF m 0 #[.val (.ref o0), .val (.ref o1), .val (.ref o2), .val (.long q3), .second, .val (.long q4), .second, .val (.long q5), .second, .unset, .unset, .unset] [] := by first | (simp [entryFrame, mkF, argsToLocals, Value.category]; done) | rfl
def rm6_2Q (Z : State) (o0 : Nat) (bn br bk be bh bf bg bx bs : Nat) (kn kr k1 kk ke kh kf kg kx ks : ClassId) (LL sc ss u0 u1 u2 : Int32) (h0 : Heap) (n0 : Nat) (v : Option Value) (h : Heap) (L : List Loc) : Prop := v = some (.int (2:Int32)) ∧ Fr n0 L ∧ Keep h0 h [o0, bk, be, bh, bf, bg, bx, bs] ∧ Fld Z h o0 "com/example/tavola/tavola/profile/RowBatch" "staticColumns" "I" (.int sc) ∧ Fld Z h o0 "com/example/tavola/tavola/profile/RowBatch" "keysLength" "I" (.int (ss + ((own_kl LL).toInt32))) ∧ Fld Z h o0 "com/example/tavola/tavola/profile/RowBatch" "count" "I" (.int (3:Int32)) ∧ Fld Z h o0 "com/example/tavola/tavola/profile/RowBatch" "keys" "[B" (.ref bk) ∧ Fld Z h o0 "com/example/tavola/tavola/profile/RowBatch" "keyEnds" "[I" (.ref be) ∧ Fld Z h o0 "com/example/tavola/tavola/profile/RowBatch" "hashes" "[I" (.ref bh) ∧ Fld Z h o0 "com/example/tavola/tavola/profile/RowBatch" "keyBytes" "[J" (.ref bf) ∧ Fld Z h o0 "com/example/tavola/tavola/profile/RowBatch" "rowBytes" "[J" (.ref bg) ∧ Fld Z h o0 "com/example/tavola/tavola/profile/RowBatch" "regularValues" "[J" (.ref bx) ∧ Fld Z h o0 "com/example/tavola/tavola/profile/RowBatch" "statics" "[I" (.ref bs) ∧ own_Arf Z h bk kk .byte (65536:Int32) (.int (0:Int32)) ∧ Arv Z h be ke .int (1024:Int32) [(.int u0), (.int u1), (.int (ss + ((own_kl LL).toInt32)))] (.int (0:Int32)) ∧ own_Arf Z h bh kh .int (1024:Int32) (.int (0:Int32)) ∧ own_Arf Z h bf kf .long (1024:Int32) (.long (0:Int64)) ∧ own_Arf Z h bg kg .long (1024:Int32) (.long (0:Int64)) ∧ own_Arf Z h bx kx .long (1024:Int32) (.long (0:Int64)) ∧ own_Arf Z h bs ks .int ((1024:Int32) * sc) (.int (0:Int32))
set_option maxRecDepth 65536 in
set_option maxHeartbeats 40000000 in
theorem rm6_2 (l : Launch) (Z : State) (aw : Array Value) (hw : ∀ d ∈ tables_1, d.before aw Z = true) (ws : List Jvm.Cond) (o0 : Nat) (o1 : Nat) (o2 : Nat) (q3 : Int64) (q4 : Int64) (q5 : Int64) (bn br bk be bh bf bg bx bs : Nat) (kn kr k1 kk ke kh kf kg kx ks : ClassId) (LL sc ss u0 u1 u2 : Int32) (h0 : Heap) (n0 : Nat) (Z0 : n0 ≤ h0.size) (E_o0 : Exa Z h0 o0 "com/example/tavola/tavola/profile/RowBatch") (E_o1 : Exa Z h0 o1 "com/example/tavola/tavola/profile/CsvReader") (F_ends : Fld Z h0 o1 "com/example/tavola/tavola/profile/CsvReader" "ends" "[I" (.ref bn)) (V_bn : Arv Z h0 bn kn .int (16:Int32) [] (.int (0:Int32))) (F_rec : Fld Z h0 o1 "com/example/tavola/tavola/profile/CsvReader" "record" "[B" (.ref br)) (A_br : own_Arf Z h0 br kr .byte (256:Int32) (.int (0:Int32))) (V_o2 : Arv Z h0 o2 k1 .int LL [] (.int (0:Int32))) (Fi0 : Fld Z h0 o0 "com/example/tavola/tavola/profile/RowBatch" "staticColumns" "I" (.int sc)) (Fi1 : Fld Z h0 o0 "com/example/tavola/tavola/profile/RowBatch" "keysLength" "I" (.int ss)) (Fi2 : Fld Z h0 o0 "com/example/tavola/tavola/profile/RowBatch" "count" "I" (.int (2:Int32))) (Fa0 : Fld Z h0 o0 "com/example/tavola/tavola/profile/RowBatch" "keys" "[B" (.ref bk)) (Fa1 : Fld Z h0 o0 "com/example/tavola/tavola/profile/RowBatch" "keyEnds" "[I" (.ref be)) (Fa2 : Fld Z h0 o0 "com/example/tavola/tavola/profile/RowBatch" "hashes" "[I" (.ref bh)) (Fa3 : Fld Z h0 o0 "com/example/tavola/tavola/profile/RowBatch" "keyBytes" "[J" (.ref bf)) (Fa4 : Fld Z h0 o0 "com/example/tavola/tavola/profile/RowBatch" "rowBytes" "[J" (.ref bg)) (Fa5 : Fld Z h0 o0 "com/example/tavola/tavola/profile/RowBatch" "regularValues" "[J" (.ref bx)) (Fa6 : Fld Z h0 o0 "com/example/tavola/tavola/profile/RowBatch" "statics" "[I" (.ref bs)) (Va0 : own_Arf Z h0 bk kk .byte (65536:Int32) (.int (0:Int32))) (Va1 : Arv Z h0 be ke .int (1024:Int32) [(.int u0), (.int u1), (.int u2)] (.int (0:Int32))) (Va2 : own_Arf Z h0 bh kh .int (1024:Int32) (.int (0:Int32))) (Va3 : own_Arf Z h0 bf kf .long (1024:Int32) (.long (0:Int64))) (Va4 : own_Arf Z h0 bg kg .long (1024:Int32) (.long (0:Int64))) (Va5 : own_Arf Z h0 bx kx .long (1024:Int32) (.long (0:Int64))) (Va6 : own_Arf Z h0 bs ks .int ((1024:Int32) * sc) (.int (0:Int32))) (lt0 : o2 < o1) (lt1 : o1 < br) (lt2 : br < bn) (lt3 : bn < o0) (lt4 : o0 < bk) (lt5 : bk < be) (lt6 : be < bh) (lt7 : bh < bf) (lt8 : bf < bg) (lt9 : bg < bx) (lt10 : bx < bs) (g_o0 : n0 ≤ o0) (g_bk : n0 ≤ bk) (g_be : n0 ≤ be) (g_bh : n0 ≤ bh) (g_bf : n0 ≤ bf) (g_bg : n0 ≤ bg) (g_bx : n0 ≤ bx) (g_bs : n0 ≤ bs) (hL : LL = (1:Int32) ∨ LL = (2:Int32) ∨ LL = (3:Int32) ∨ LL = (4:Int32)) (hsc : sc = (0:Int32) ∨ sc = (1:Int32) ∨ sc = (2:Int32) ∨ sc = (3:Int32)) (hp0 : ¬ ss < (0:Int32)) (hp6 : ¬ (6:Int32) < ss) :
    MetFree l (⟨"com/example/tavola/tavola/profile/RowBatch", "add", "(Lcom/example/tavola/tavola/profile/CsvReader;[IJJJ)I"⟩ : MethodName) (head1 (Jvm.Cond.code (⟨"com/example/tavola/tavola/profile/RowBatch", "add", "(Lcom/example/tavola/tavola/profile/CsvReader;[IJJJ)I"⟩ : MethodName) prog_92_method_2_code 12 (some .int) :: ws) ({ frames := 2, cells := 0, slots := 0, locals := 78 } : Room)) (fun a U => a = #[(.ref o0), (.ref o1), (.ref o2), (.long q3), (.long q4), (.long q5)] ∧ Z.Warmed39 U.vm ∧ U.heap = h0) (fun _ _ _ _ _ => True) (fun _ U o U' => ∃ v L, o = .returned v ∧ rm6_2Q Z o0 bn br bk be bh bf bg bx bs kn kr k1 kk ke kh kf kg kx ks LL sc ss u0 u1 u2 h0 n0 v U'.heap L ∧ FrameEnd U o U' L ({ frames := 2, cells := 0, slots := 0, locals := 78 } : Room).cells ({ frames := 2, cells := 0, slots := 0, locals := 78 } : Room).slots) := by
  refine MetFree.of_bodySF (plainFor_of_name pn_6) hisR ?_
  intro p e s m args below meth c s₁ Bd hml0 hP hK
  obtain ⟨rfl, hZ, hh⟩ := hP
  have hx := Bd.exec
  have hby := Bd.bytes
  have hml : c.maxLocals = 12 := hml0
  have hown : s.vm.findClass "com/example/tavola/tavola/profile/RowBatch" = some m.cls := findClass_of_methodNamed Bd.named
  have hnm := (name_of_methodNamed Bd.named Bd.method).1
  have X0 : Stand p l e ({ frames := 2, cells := 0, slots := 0, locals := 78 } : Room) s m #[(.ref o0), (.ref o1), (.ref o2), (.long q3), (.long q4), (.long q5)] below meth c s₁ [] 0 0 := Stand.of_body Bd
  have e0 : s₁.heap = h0 := by rw [← hh, Bd.state]; rfl
  have N0 := Fr.nil n0
  have pre0 : ∀ t, Steps p.tables e below (s₁.setTop (mkF m 0 #[.val (.ref o0), .val (.ref o1), .val (.ref o2), .val (.long q3), .second, .val (.long q4), .second, .val (.long q5), .second, .unset, .unset, .unset] [])) t → Steps p.tables e below (s₁.setTop (entryFrame m #[(.ref o0), (.ref o1), (.ref o2), (.long q3), (.long q4), (.long q5)] 12)) t := fun t k => castTop (ef_rm6_2 m o0 o1 o2 q3 q4 q5) k
  obtain ⟨cq1, kq1, q1a, q1b, q1c⟩ := isOf hZ e0 (E_o1)
  obtain ⟨_, _, ⟨T1, L1, k1, n1⟩, -, X1, ⟨Lc1, hQ1, l1, y1, z1⟩, st1⟩ := X0.virtualBack hx (y := (⟨"com/example/tavola/tavola/profile/CsvReader", "keyLength", "([I)J"⟩ : MethodName)) (z := (⟨"com/example/tavola/tavola/profile/CsvReader", "keyLength", "([I)J"⟩ : MethodName)) hown (mvT hZ (hw _ (oG (i := 65) rfl))) (mvT hZ (hw _ (oG (i := 66) rfl))) (notFace_of_selects (args := #[]) (mvT hZ (hw _ (oG (i := 68) rfl)))) (mvT hZ (hw _ (oG (i := 68) rfl))) (mvT hZ (hw _ (oG (i := 67) rfl))) (by decide) (backOf (W := 0) (rm7 l Z aw hw [] o1 o2 bn kn k1 LL h0 n0 Z0 E_o1 F_ends V_bn V_o2 hL) hZ (hw _ (oG (i := 69) rfl)) (hw _ (oG (i := 4) rfl)) (by decide) (by decide)) q1a q1c (g := (mkF m 2 #[.val (.ref o0), .val (.ref o1), .val (.ref o2), .val (.long q3), .second, .val (.long q4), .second, .val (.long q5), .second, .unset, .unset, .unset] [(.ref o2), (.ref o1)])) rfl (by rw [hml]; rfl) (Steps.refl _) (argsL := [(.ref o2)]) (rest := []) (lenOf pd_rm6_2_0 rfl) rfl (by show 2 * 0 + _ ≤ _; exact Nat.le_of_eq rfl) (hb hby d6_2) (fun _ _ => ⟨rfl, e0, (by decide : 0 + 0 ≤ _), (by decide : 0 + 0 ≤ _)⟩)
  dsimp only [Pt.U, Pt.locs, Pt.cells, Pt.slots] at X1 l1 y1 z1 st1 hQ1
  subst l1 y1 z1
  obtain ⟨rfl, N1q, e1q⟩ := hQ1
  have N1 := Fr.app N0 N1q
  obtain ⟨T2, X2, e2, st2⟩ := getF X1 hx hZ hown (host := "") (Or.inl (hw _ (oG (i := 74) rfl))) Via.refl e1q Fi1 (g := (mkF m 8 #[.val (.ref o0), .val (.ref o1), .val (.ref o2), .val (.long q3), .second, .val (.long q4), .second, .val (.long q5), .second, .val (.long (own_kl LL)), .second, .unset] [(.ref o0)])) rfl rfl (hb hby d6_8)
  obtain ⟨T3, X3, e3, st3⟩ := getF X2 hx hZ hown (host := "") (Or.inl (hw _ (oG (i := 34) rfl))) Via.refl e2 Fa0 (g := (mkF m 16 #[.val (.ref o0), .val (.ref o1), .val (.ref o2), .val (.long q3), .second, .val (.long q4), .second, .val (.long q5), .second, .val (.long (own_kl LL)), .second, .unset] [(.ref o0), (.long ((ss.toInt64) + (own_kl LL)))])) rfl rfl (hb hby d6_16)
  obtain ⟨vs4, hl4, cl4, Ar4, -, S4, N4', -, -⟩ := id Va0
  obtain ⟨T5, X5, e5, st5⟩ := getF X3 hx hZ hown (host := "") (Or.inl (hw _ (oG (i := 34) rfl))) Via.refl e3 Fa0 (g := (mkF m 61 #[.val (.ref o0), .val (.ref o1), .val (.ref o2), .val (.long q3), .second, .val (.long q4), .second, .val (.long q5), .second, .val (.long (own_kl LL)), .second, .unset] [(.ref o0), (.ref o2), (.ref o1)])) rfl rfl (hb hby d6_61)
  obtain ⟨T6, X6, e6, st6⟩ := getF X5 hx hZ hown (host := "") (Or.inl (hw _ (oG (i := 74) rfl))) Via.refl e5 Fi1 (g := (mkF m 65 #[.val (.ref o0), .val (.ref o1), .val (.ref o2), .val (.long q3), .second, .val (.long q4), .second, .val (.long q5), .second, .val (.long (own_kl LL)), .second, .unset] [(.ref o0), (.ref bk), (.ref o2), (.ref o1)])) rfl rfl (hb hby d6_65)
  obtain ⟨cq7, kq7, q7a, q7b, q7c⟩ := isOf hZ e6 (E_o1)
  obtain ⟨_, _, ⟨T7, L7, k7, n7⟩, -, X7, ⟨Lc7, hQ7, l7, y7, z7⟩, st7⟩ := X6.virtualBack hx (y := (⟨"com/example/tavola/tavola/profile/CsvReader", "copyKey", "([I[BI)V"⟩ : MethodName)) (z := (⟨"com/example/tavola/tavola/profile/CsvReader", "copyKey", "([I[BI)V"⟩ : MethodName)) hown (mvT hZ (hw _ (oG (i := 76) rfl))) (mvT hZ (hw _ (oG (i := 77) rfl))) (notFace_of_selects (args := #[]) (mvT hZ (hw _ (oG (i := 79) rfl)))) (mvT hZ (hw _ (oG (i := 79) rfl))) (mvT hZ (hw _ (oG (i := 78) rfl))) (by decide) (backOf (W := 0) (rm9 l Z aw hw [] o1 o2 bk ss bn br kn kr k1 kk LL h0 n0 Z0 E_o1 F_ends V_bn F_rec A_br V_o2 Va0 g_bk hp0 hp6 (by omega) (by omega) (by omega) (by omega) hL) hZ (hw _ (oG (i := 80) rfl)) (hw _ (oG (i := 4) rfl)) (by decide) (by decide)) q7a q7c (g := (mkF m 68 #[.val (.ref o0), .val (.ref o1), .val (.ref o2), .val (.long q3), .second, .val (.long q4), .second, .val (.long q5), .second, .val (.long (own_kl LL)), .second, .unset] [(.int ss), (.ref bk), (.ref o2), (.ref o1)])) rfl (by rw [hml]; rfl) (Steps.refl _) (argsL := [(.ref o2), (.ref bk), (.int ss)]) (rest := []) (lenOf pd_rm6_2_1 rfl) rfl (by show 2 * 0 + _ ≤ _; exact Nat.le_of_eq rfl) (hb hby d6_68) (fun _ _ => ⟨rfl, e6, (by decide : 0 + 0 ≤ _), (by decide : 0 + 0 ≤ _)⟩)
  dsimp only [Pt.U, Pt.locs, Pt.cells, Pt.slots] at X7 l7 y7 z7 st7 hQ7
  subst l7 y7 z7
  obtain ⟨rfl, N7q, K7q, A7q⟩ := hQ7
  have N7 := Fr.app N1 N7q
  have ne_8 : o0 ≠ bk := by omega
  have Ff_9 : Fld Z T7.heap o0 "com/example/tavola/tavola/profile/RowBatch" "keysLength" "I" (.int ss) := (Fi1.keep K7q (ninS ne_8 nin0))
  obtain ⟨T10, X10, e10, st10⟩ := getF X7 hx hZ hown (host := "") (Or.inl (hw _ (oG (i := 74) rfl))) Via.refl rfl Ff_9 (g := (mkF m 73 #[.val (.ref o0), .val (.ref o1), .val (.ref o2), .val (.long q3), .second, .val (.long q4), .second, .val (.long q5), .second, .val (.long (own_kl LL)), .second, .unset] [(.ref o0), (.ref o0)])) rfl rfl (hb hby d6_73)
  have Ee_11 : Exa Z T7.heap o0 "com/example/tavola/tavola/profile/RowBatch" := (E_o0.keep K7q)
  obtain ⟨T12, h12, X12, e12, W12, st12⟩ := putF X10 hx hZ hown (host := "") (Or.inl (hw _ (oG (i := 74) rfl))) Via.refl e10 Ff_9 Ee_11 (Or.inl (hw _ (oG (i := 75) rfl))) (hw _ (oG (i := 27) rfl)) (ty := .int) (by decide) rfl rfl (g := (mkF m 80 #[.val (.ref o0), .val (.ref o1), .val (.ref o2), .val (.long q3), .second, .val (.long q4), .second, .val (.long q5), .second, .val (.long (own_kl LL)), .second, .unset] [(.int (ss + ((own_kl LL).toInt32))), (.ref o0)])) rfl rfl (hb hby d6_80)
  have Fw12 := Fld.same W12 Ff_9
  have N12 := Fr.snoc X12 N7 g_o0
  have Ff_13 : Fld Z h12 o0 "com/example/tavola/tavola/profile/RowBatch" "count" "I" (.int (2:Int32)) := ((Fi2.keep K7q (ninS ne_8 nin0)).other W12 (Or.inr (slot_ne (Or.inl (hw _ (oG (i := 86) rfl))) (Or.inl (hw _ (oG (i := 75) rfl))) (by decide) (t := .int) (t' := .int) (by decide) (by decide))))
  obtain ⟨T14, X14, e14, st14⟩ := getF X12 hx hZ hown (host := "") (Or.inl (hw _ (oG (i := 85) rfl))) Via.refl e12 Ff_13 (g := (mkF m 85 #[.val (.ref o0), .val (.ref o1), .val (.ref o2), .val (.long q3), .second, .val (.long q4), .second, .val (.long q5), .second, .val (.long (own_kl LL)), .second, .unset] [(.ref o0), (.ref o0)])) rfl rfl (hb hby d6_85)
  have Ee_15 : Exa Z h12 o0 "com/example/tavola/tavola/profile/RowBatch" := (Ee_11.wr W12)
  obtain ⟨T16, h16, X16, e16, W16, st16⟩ := putF X14 hx hZ hown (host := "") (Or.inl (hw _ (oG (i := 85) rfl))) Via.refl e14 Ff_13 Ee_15 (Or.inl (hw _ (oG (i := 86) rfl))) (hw _ (oG (i := 27) rfl)) (ty := .int) (by decide) rfl rfl (g := (mkF m 91 #[.val (.ref o0), .val (.ref o1), .val (.ref o2), .val (.long q3), .second, .val (.long q4), .second, .val (.long q5), .second, .val (.long (own_kl LL)), .second, .unset] [(.int (3:Int32)), (.ref o0), (.int (2:Int32))])) rfl rfl (hb hby d6_91)
  have Fw16 := Fld.same W16 Ff_13
  have N16 := Fr.snoc X16 N12 g_o0
  have Ff_17 : Fld Z h16 o0 "com/example/tavola/tavola/profile/RowBatch" "keyEnds" "[I" (.ref be) := (((Fa1.keep K7q (ninS ne_8 nin0)).other W12 (Or.inr (slot_ne (Or.inr (hw _ (oG (i := 37) rfl))) (Or.inl (hw _ (oG (i := 75) rfl))) (by decide) (t := (.array .int)) (t' := .int) (by decide) (by decide)))).other W16 (Or.inr (slot_ne (Or.inr (hw _ (oG (i := 37) rfl))) (Or.inl (hw _ (oG (i := 86) rfl))) (by decide) (t := (.array .int)) (t' := .int) (by decide) (by decide))))
  obtain ⟨T18, X18, e18, st18⟩ := getF X16 hx hZ hown (host := "") (Or.inl (hw _ (oG (i := 36) rfl))) Via.refl e16 Ff_17 (g := (mkF m 97 #[.val (.ref o0), .val (.ref o1), .val (.ref o2), .val (.long q3), .second, .val (.long q4), .second, .val (.long q5), .second, .val (.long (own_kl LL)), .second, .val (.int (2:Int32))] [(.ref o0)])) rfl rfl (hb hby d6_97)
  have Ff_19 : Fld Z h16 o0 "com/example/tavola/tavola/profile/RowBatch" "keysLength" "I" (.int (ss + ((own_kl LL).toInt32))) := (Fw12.other W16 (Or.inr (slot_ne (Or.inl (hw _ (oG (i := 75) rfl))) (Or.inl (hw _ (oG (i := 86) rfl))) (by decide) (t := .int) (t' := .int) (by decide) (by decide))))
  obtain ⟨T20, X20, e20, st20⟩ := getF X18 hx hZ hown (host := "") (Or.inl (hw _ (oG (i := 74) rfl))) Via.refl e18 Ff_19 (g := (mkF m 103 #[.val (.ref o0), .val (.ref o1), .val (.ref o2), .val (.long q3), .second, .val (.long q4), .second, .val (.long q5), .second, .val (.long (own_kl LL)), .second, .val (.int (2:Int32))] [(.ref o0), (.int (2:Int32)), (.ref be)])) rfl rfl (hb hby d6_103)
  have ne_21 : be ≠ bk := by omega
  have ne_22 : be ≠ o0 := by omega
  have Va_23 : Arv Z h16 be ke .int (1024:Int32) [(.int u0), (.int u1), (.int u2)] (.int (0:Int32)) := (((Va1.keep K7q (ninS ne_21 nin0)).other W12 ne_22).other W16 ne_22)
  obtain ⟨cl24, Ar24, q24, S24, N24', H24, G24⟩ := id Va_23
  have hin24 : ¬ ((2:Int32) < 0 ∨ cl24.slots.size ≤ ((2:Int32)).toNatClampNeg) := inb_of S24 ⟨by decide, by decide⟩
  obtain ⟨T25, h25, X25, e25, W25, st25⟩ := stI X20 hx hZ e20 Ar24 (j := (2:Int32)) hin24 (g := (mkF m 106 #[.val (.ref o0), .val (.ref o1), .val (.ref o2), .val (.long q3), .second, .val (.long q4), .second, .val (.long q5), .second, .val (.long (own_kl LL)), .second, .val (.int (2:Int32))] [(.int (ss + ((own_kl LL).toInt32))), (.int (2:Int32)), (.ref be)])) rfl rfl (hb hby d6_106)
  have Vs25 : Arv Z h25 be ke .int (1024:Int32) [(.int u0), (.int u1), (.int (ss + ((own_kl LL).toInt32)))] (.int (0:Int32)) := Arv.set Ar24 q24 S24 N24' H24 G24 rfl W25 2 rfl (Nat.le_of_ble_eq_true rfl)
  have N25 := Fr.snoc X25 N16 g_be
  have Ff_26 : Fld Z h25 o0 "com/example/tavola/tavola/profile/RowBatch" "hashes" "[I" (.ref bh) := ((((Fa2.keep K7q (ninS ne_8 nin0)).other W12 (Or.inr (slot_ne (Or.inr (hw _ (oG (i := 39) rfl))) (Or.inl (hw _ (oG (i := 75) rfl))) (by decide) (t := (.array .int)) (t' := .int) (by decide) (by decide)))).other W16 (Or.inr (slot_ne (Or.inr (hw _ (oG (i := 39) rfl))) (Or.inl (hw _ (oG (i := 86) rfl))) (by decide) (t := (.array .int)) (t' := .int) (by decide) (by decide)))).other W25 (Or.inl (Ne.symm ne_22)))
  obtain ⟨T27, X27, e27, st27⟩ := getF X25 hx hZ hown (host := "") (Or.inl (hw _ (oG (i := 38) rfl))) Via.refl e25 Ff_26 (g := (mkF m 108 #[.val (.ref o0), .val (.ref o1), .val (.ref o2), .val (.long q3), .second, .val (.long q4), .second, .val (.long q5), .second, .val (.long (own_kl LL)), .second, .val (.int (2:Int32))] [(.ref o0)])) rfl rfl (hb hby d6_108)
  have Zz_29 : n0 ≤ h25.size := (Nat.le_trans (Nat.le_trans (Nat.le_trans (Nat.le_trans Z0 K7q.1) (Keep.of_wr W12).1) (Keep.of_wr W16).1) (Keep.of_wr W25).1)
  have Ee_30 : Exa Z h25 o1 "com/example/tavola/tavola/profile/CsvReader" := ((((E_o1.keep K7q).wr W12).wr W16).wr W25)
  have ne_31 : o1 ≠ bk := by omega
  have ne_32 : o1 ≠ o0 := by omega
  have ne_33 : o1 ≠ be := by omega
  have Ff_34 : Fld Z h25 o1 "com/example/tavola/tavola/profile/CsvReader" "ends" "[I" (.ref bn) := ((((F_ends.keep K7q (ninS ne_31 nin0)).other W12 (Or.inl ne_32)).other W16 (Or.inl ne_32)).other W25 (Or.inl ne_33))
  have ne_35 : bn ≠ bk := by omega
  have ne_36 : bn ≠ o0 := by omega
  have ne_37 : bn ≠ be := by omega
  have Va_38 : Arv Z h25 bn kn .int (16:Int32) [] (.int (0:Int32)) := ((((V_bn.keep K7q (ninS ne_35 nin0)).other W12 ne_36).other W16 ne_36).other W25 ne_37)
  have ne_39 : o2 ≠ bk := by omega
  have ne_40 : o2 ≠ o0 := by omega
  have ne_41 : o2 ≠ be := by omega
  have Va_42 : Arv Z h25 o2 k1 .int LL [] (.int (0:Int32)) := ((((V_o2.keep K7q (ninS ne_39 nin0)).other W12 ne_40).other W16 ne_40).other W25 ne_41)
  obtain ⟨cq28, kq28, q28a, q28b, q28c⟩ := isOf hZ e27 (Ee_30)
  obtain ⟨_, _, ⟨T28, L28, k28, n28⟩, -, X28, ⟨Lc28, hQ28, l28, y28, z28⟩, st28⟩ := X27.virtualBack hx (y := (⟨"com/example/tavola/tavola/profile/CsvReader", "keyHash", "([I)I"⟩ : MethodName)) (z := (⟨"com/example/tavola/tavola/profile/CsvReader", "keyHash", "([I)I"⟩ : MethodName)) hown (mvT hZ (hw _ (oG (i := 87) rfl))) (mvT hZ (hw _ (oG (i := 88) rfl))) (notFace_of_selects (args := #[]) (mvT hZ (hw _ (oG (i := 90) rfl)))) (mvT hZ (hw _ (oG (i := 90) rfl))) (mvT hZ (hw _ (oG (i := 89) rfl))) (by decide) (backOf (W := 2) (rm10 l Z aw hw [] o1 o2 bn kn k1 LL h25 n0 Zz_29 Ee_30 Ff_34 Va_38 Va_42 hL) hZ (hw _ (oG (i := 91) rfl)) (hw _ (oG (i := 4) rfl)) (by decide) (by decide)) q28a q28c (g := (mkF m 115 #[.val (.ref o0), .val (.ref o1), .val (.ref o2), .val (.long q3), .second, .val (.long q4), .second, .val (.long q5), .second, .val (.long (own_kl LL)), .second, .val (.int (2:Int32))] [(.ref o2), (.ref o1), (.int (2:Int32)), (.ref bh)])) rfl (by rw [hml]; rfl) (Steps.refl _) (argsL := [(.ref o2)]) (rest := [(.int (2:Int32)), (.ref bh)]) (lenOf pd_rm6_2_2 rfl) rfl (by show 2 * 0 + _ ≤ _; exact Nat.le_of_eq rfl) (hb hby d6_115) (fun _ _ => ⟨rfl, e27, (by decide : 0 + 0 ≤ _), (by decide : 0 + 0 ≤ _)⟩)
  dsimp only [Pt.U, Pt.locs, Pt.cells, Pt.slots] at X28 l28 y28 z28 st28 hQ28
  subst l28 y28 z28
  obtain ⟨rfl, N28q, e28q⟩ := hQ28
  have N28 := Fr.app N25 N28q
  have ne_43 : bh ≠ bk := by omega
  have ne_44 : bh ≠ o0 := by omega
  have ne_45 : bh ≠ be := by omega
  have Aa_46 : own_Arf Z h25 bh kh .int (1024:Int32) (.int (0:Int32)) := (own_arfO (own_arfO (own_arfO (own_arfK Va2 K7q (ninS ne_43 nin0)) W12 ne_44) W16 ne_44) W25 ne_45)
  obtain ⟨vs47, hl47, cl47, Ar47, q47, S47, N47', H47, G47⟩ := id Aa_46
  have hin47 : ¬ ((2:Int32) < 0 ∨ cl47.slots.size ≤ ((2:Int32)).toNatClampNeg) := inb_of S47 ⟨by decide, by decide⟩
  obtain ⟨T48, h48, X48, e48, W48, st48⟩ := stI X28 hx hZ e28q Ar47 (j := (2:Int32)) hin47 (g := (mkF m 118 #[.val (.ref o0), .val (.ref o1), .val (.ref o2), .val (.long q3), .second, .val (.long q4), .second, .val (.long q5), .second, .val (.long (own_kl LL)), .second, .val (.int (2:Int32))] [(.int (0:Int32)), (.int (2:Int32)), (.ref bh)])) rfl rfl (hb hby d6_118)
  have As48 : own_Arf Z h48 bh kh .int (1024:Int32) (.int (0:Int32)) := own_arfW hl47 Ar47 q47 S47 N47' H47 G47 rfl W48 hin47
  have N48 := Fr.snoc X48 N28 g_bh
  have Ff_49 : Fld Z h48 o0 "com/example/tavola/tavola/profile/RowBatch" "keyBytes" "[J" (.ref bf) := (((((Fa3.keep K7q (ninS ne_8 nin0)).other W12 (Or.inr (slot_ne (Or.inr (hw _ (oG (i := 42) rfl))) (Or.inl (hw _ (oG (i := 75) rfl))) (by decide) (t := (.array .long)) (t' := .int) (by decide) (by decide)))).other W16 (Or.inr (slot_ne (Or.inr (hw _ (oG (i := 42) rfl))) (Or.inl (hw _ (oG (i := 86) rfl))) (by decide) (t := (.array .long)) (t' := .int) (by decide) (by decide)))).other W25 (Or.inl (Ne.symm ne_22))).other W48 (Or.inl (Ne.symm ne_44)))
  obtain ⟨T50, X50, e50, st50⟩ := getF X48 hx hZ hown (host := "") (Or.inl (hw _ (oG (i := 41) rfl))) Via.refl e48 Ff_49 (g := (mkF m 120 #[.val (.ref o0), .val (.ref o1), .val (.ref o2), .val (.long q3), .second, .val (.long q4), .second, .val (.long q5), .second, .val (.long (own_kl LL)), .second, .val (.int (2:Int32))] [(.ref o0)])) rfl rfl (hb hby d6_120)
  have ne_51 : bf ≠ bk := by omega
  have ne_52 : bf ≠ o0 := by omega
  have ne_53 : bf ≠ be := by omega
  have ne_54 : bf ≠ bh := by omega
  have Aa_55 : own_Arf Z h48 bf kf .long (1024:Int32) (.long (0:Int64)) := (own_arfO (own_arfO (own_arfO (own_arfO (own_arfK Va3 K7q (ninS ne_51 nin0)) W12 ne_52) W16 ne_52) W25 ne_53) W48 ne_54)
  obtain ⟨vs56, hl56, cl56, Ar56, q56, S56, N56', H56, G56⟩ := id Aa_55
  have hin56 : ¬ ((2:Int32) < 0 ∨ cl56.slots.size ≤ ((2:Int32)).toNatClampNeg) := inb_of S56 ⟨by decide, by decide⟩
  obtain ⟨T57, h57, X57, e57, W57, st57⟩ := stJ X50 hx hZ e50 Ar56 (j := (2:Int32)) hin56 (g := (mkF m 126 #[.val (.ref o0), .val (.ref o1), .val (.ref o2), .val (.long q3), .second, .val (.long q4), .second, .val (.long q5), .second, .val (.long (own_kl LL)), .second, .val (.int (2:Int32))] [(.long q3), (.int (2:Int32)), (.ref bf)])) rfl rfl (hb hby d6_126)
  have As57 : own_Arf Z h57 bf kf .long (1024:Int32) (.long (0:Int64)) := own_arfW hl56 Ar56 q56 S56 N56' H56 G56 rfl W57 hin56
  have N57 := Fr.snoc X57 N48 g_bf
  have Ff_58 : Fld Z h57 o0 "com/example/tavola/tavola/profile/RowBatch" "rowBytes" "[J" (.ref bg) := ((((((Fa4.keep K7q (ninS ne_8 nin0)).other W12 (Or.inr (slot_ne (Or.inr (hw _ (oG (i := 44) rfl))) (Or.inl (hw _ (oG (i := 75) rfl))) (by decide) (t := (.array .long)) (t' := .int) (by decide) (by decide)))).other W16 (Or.inr (slot_ne (Or.inr (hw _ (oG (i := 44) rfl))) (Or.inl (hw _ (oG (i := 86) rfl))) (by decide) (t := (.array .long)) (t' := .int) (by decide) (by decide)))).other W25 (Or.inl (Ne.symm ne_22))).other W48 (Or.inl (Ne.symm ne_44))).other W57 (Or.inl (Ne.symm ne_52)))
  obtain ⟨T59, X59, e59, st59⟩ := getF X57 hx hZ hown (host := "") (Or.inl (hw _ (oG (i := 43) rfl))) Via.refl e57 Ff_58 (g := (mkF m 128 #[.val (.ref o0), .val (.ref o1), .val (.ref o2), .val (.long q3), .second, .val (.long q4), .second, .val (.long q5), .second, .val (.long (own_kl LL)), .second, .val (.int (2:Int32))] [(.ref o0)])) rfl rfl (hb hby d6_128)
  have ne_60 : bg ≠ bk := by omega
  have ne_61 : bg ≠ o0 := by omega
  have ne_62 : bg ≠ be := by omega
  have ne_63 : bg ≠ bh := by omega
  have ne_64 : bg ≠ bf := by omega
  have Aa_65 : own_Arf Z h57 bg kg .long (1024:Int32) (.long (0:Int64)) := (own_arfO (own_arfO (own_arfO (own_arfO (own_arfO (own_arfK Va4 K7q (ninS ne_60 nin0)) W12 ne_61) W16 ne_61) W25 ne_62) W48 ne_63) W57 ne_64)
  obtain ⟨vs66, hl66, cl66, Ar66, q66, S66, N66', H66, G66⟩ := id Aa_65
  have hin66 : ¬ ((2:Int32) < 0 ∨ cl66.slots.size ≤ ((2:Int32)).toNatClampNeg) := inb_of S66 ⟨by decide, by decide⟩
  obtain ⟨T67, h67, X67, e67, W67, st67⟩ := stJ X59 hx hZ e59 Ar66 (j := (2:Int32)) hin66 (g := (mkF m 135 #[.val (.ref o0), .val (.ref o1), .val (.ref o2), .val (.long q3), .second, .val (.long q4), .second, .val (.long q5), .second, .val (.long (own_kl LL)), .second, .val (.int (2:Int32))] [(.long q4), (.int (2:Int32)), (.ref bg)])) rfl rfl (hb hby d6_135)
  have As67 : own_Arf Z h67 bg kg .long (1024:Int32) (.long (0:Int64)) := own_arfW hl66 Ar66 q66 S66 N66' H66 G66 rfl W67 hin66
  have N67 := Fr.snoc X67 N57 g_bg
  have Ff_68 : Fld Z h67 o0 "com/example/tavola/tavola/profile/RowBatch" "regularValues" "[J" (.ref bx) := (((((((Fa5.keep K7q (ninS ne_8 nin0)).other W12 (Or.inr (slot_ne (Or.inr (hw _ (oG (i := 46) rfl))) (Or.inl (hw _ (oG (i := 75) rfl))) (by decide) (t := (.array .long)) (t' := .int) (by decide) (by decide)))).other W16 (Or.inr (slot_ne (Or.inr (hw _ (oG (i := 46) rfl))) (Or.inl (hw _ (oG (i := 86) rfl))) (by decide) (t := (.array .long)) (t' := .int) (by decide) (by decide)))).other W25 (Or.inl (Ne.symm ne_22))).other W48 (Or.inl (Ne.symm ne_44))).other W57 (Or.inl (Ne.symm ne_52))).other W67 (Or.inl (Ne.symm ne_61)))
  obtain ⟨T69, X69, e69, st69⟩ := getF X67 hx hZ hown (host := "") (Or.inl (hw _ (oG (i := 45) rfl))) Via.refl e67 Ff_68 (g := (mkF m 137 #[.val (.ref o0), .val (.ref o1), .val (.ref o2), .val (.long q3), .second, .val (.long q4), .second, .val (.long q5), .second, .val (.long (own_kl LL)), .second, .val (.int (2:Int32))] [(.ref o0)])) rfl rfl (hb hby d6_137)
  have ne_70 : bx ≠ bk := by omega
  have ne_71 : bx ≠ o0 := by omega
  have ne_72 : bx ≠ be := by omega
  have ne_73 : bx ≠ bh := by omega
  have ne_74 : bx ≠ bf := by omega
  have ne_75 : bx ≠ bg := by omega
  have Aa_76 : own_Arf Z h67 bx kx .long (1024:Int32) (.long (0:Int64)) := (own_arfO (own_arfO (own_arfO (own_arfO (own_arfO (own_arfO (own_arfK Va5 K7q (ninS ne_70 nin0)) W12 ne_71) W16 ne_71) W25 ne_72) W48 ne_73) W57 ne_74) W67 ne_75)
  obtain ⟨vs77, hl77, cl77, Ar77, q77, S77, N77', H77, G77⟩ := id Aa_76
  have hin77 : ¬ ((2:Int32) < 0 ∨ cl77.slots.size ≤ ((2:Int32)).toNatClampNeg) := inb_of S77 ⟨by decide, by decide⟩
  obtain ⟨T78, h78, X78, e78, W78, st78⟩ := stJ X69 hx hZ e69 Ar77 (j := (2:Int32)) hin77 (g := (mkF m 144 #[.val (.ref o0), .val (.ref o1), .val (.ref o2), .val (.long q3), .second, .val (.long q4), .second, .val (.long q5), .second, .val (.long (own_kl LL)), .second, .val (.int (2:Int32))] [(.long q5), (.int (2:Int32)), (.ref bx)])) rfl rfl (hb hby d6_144)
  have As78 : own_Arf Z h78 bx kx .long (1024:Int32) (.long (0:Int64)) := own_arfW hl77 Ar77 q77 S77 N77' H77 G77 rfl W78 hin77
  have N78 := Fr.snoc X78 N67 g_bx
  have Ff_79 : Fld Z h78 o0 "com/example/tavola/tavola/profile/RowBatch" "statics" "[I" (.ref bs) := ((((((((Fa6.keep K7q (ninS ne_8 nin0)).other W12 (Or.inr (slot_ne (Or.inr (hw _ (oG (i := 50) rfl))) (Or.inl (hw _ (oG (i := 75) rfl))) (by decide) (t := (.array .int)) (t' := .int) (by decide) (by decide)))).other W16 (Or.inr (slot_ne (Or.inr (hw _ (oG (i := 50) rfl))) (Or.inl (hw _ (oG (i := 86) rfl))) (by decide) (t := (.array .int)) (t' := .int) (by decide) (by decide)))).other W25 (Or.inl (Ne.symm ne_22))).other W48 (Or.inl (Ne.symm ne_44))).other W57 (Or.inl (Ne.symm ne_52))).other W67 (Or.inl (Ne.symm ne_61))).other W78 (Or.inl (Ne.symm ne_71)))
  obtain ⟨T80, X80, e80, st80⟩ := getF X78 hx hZ hown (host := "") (Or.inl (hw _ (oG (i := 49) rfl))) Via.refl e78 Ff_79 (g := (mkF m 146 #[.val (.ref o0), .val (.ref o1), .val (.ref o2), .val (.long q3), .second, .val (.long q4), .second, .val (.long q5), .second, .val (.long (own_kl LL)), .second, .val (.int (2:Int32))] [(.ref o0)])) rfl rfl (hb hby d6_146)
  have Ff_81 : Fld Z h78 o0 "com/example/tavola/tavola/profile/RowBatch" "staticColumns" "I" (.int sc) := ((((((((Fi0.keep K7q (ninS ne_8 nin0)).other W12 (Or.inr (slot_ne (Or.inr (hw _ (oG (i := 48) rfl))) (Or.inl (hw _ (oG (i := 75) rfl))) (by decide) (t := .int) (t' := .int) (by decide) (by decide)))).other W16 (Or.inr (slot_ne (Or.inr (hw _ (oG (i := 48) rfl))) (Or.inl (hw _ (oG (i := 86) rfl))) (by decide) (t := .int) (t' := .int) (by decide) (by decide)))).other W25 (Or.inl (Ne.symm ne_22))).other W48 (Or.inl (Ne.symm ne_44))).other W57 (Or.inl (Ne.symm ne_52))).other W67 (Or.inl (Ne.symm ne_61))).other W78 (Or.inl (Ne.symm ne_71)))
  obtain ⟨T82, X82, e82, st82⟩ := getF X80 hx hZ hown (host := "") (Or.inl (hw _ (oG (i := 47) rfl))) Via.refl e80 Ff_81 (g := (mkF m 152 #[.val (.ref o0), .val (.ref o1), .val (.ref o2), .val (.long q3), .second, .val (.long q4), .second, .val (.long q5), .second, .val (.long (own_kl LL)), .second, .val (.int (2:Int32))] [(.ref o0), (.int (2:Int32)), (.ref bs)])) rfl rfl (hb hby d6_152)
  obtain ⟨T83, X83, e83, st83⟩ := getF X82 hx hZ hown (host := "") (Or.inl (hw _ (oG (i := 47) rfl))) Via.refl e82 Ff_81 (g := (mkF m 161 #[.val (.ref o0), .val (.ref o1), .val (.ref o2), .val (.long q3), .second, .val (.long q4), .second, .val (.long q5), .second, .val (.long (own_kl LL)), .second, .val (.int (2:Int32))] [(.ref o0), (.int (3:Int32)), (.int ((2:Int32) * sc)), (.ref bs)])) rfl rfl (hb hby d6_161)
  have hfl := own_fill (2:Int32) (3:Int32) (by decide) hsc
  have Zz_85 : n0 ≤ h78.size := (Nat.le_trans (Nat.le_trans (Nat.le_trans (Nat.le_trans Zz_29 (Keep.of_wr W48).1) (Keep.of_wr W57).1) (Keep.of_wr W67).1) (Keep.of_wr W78).1)
  have ne_86 : bs ≠ bk := by omega
  have ne_87 : bs ≠ o0 := by omega
  have ne_88 : bs ≠ be := by omega
  have ne_89 : bs ≠ bh := by omega
  have ne_90 : bs ≠ bf := by omega
  have ne_91 : bs ≠ bg := by omega
  have ne_92 : bs ≠ bx := by omega
  have Aa_93 : own_Arf Z h78 bs ks .int ((1024:Int32) * sc) (.int (0:Int32)) := (own_arfO (own_arfO (own_arfO (own_arfO (own_arfO (own_arfO (own_arfO (own_arfK Va6 K7q (ninS ne_86 nin0)) W12 ne_87) W16 ne_87) W25 ne_88) W48 ne_89) W57 ne_90) W67 ne_91) W78 ne_92)
  obtain ⟨_, _, ⟨T84, L84, k84, n84⟩, -, X84, ⟨Lc84, hQ84, l84, y84, z84⟩, st84⟩ := Jvm.LawKit.callS X83 hx (y := (⟨"java/util/Arrays", "fill", "([IIII)V"⟩ : MethodName)) hown (mvT hZ (hw _ (oG (i := 92) rfl))) (mvT hZ (hw _ (oG (i := 93) rfl))) (mvT hZ (hw _ (oG (i := 94) rfl))) (mvT hZ (hw _ (oG (i := 95) rfl))) (by decide) (backOf (W := 0) (rm11 l Z aw hw [] bs ((2:Int32) * sc) ((3:Int32) * sc) (-1:Int32) ks ((1024:Int32) * sc) h78 n0 Zz_85 Aa_93 g_bs hfl.1 hfl.2.1 hfl.2.2.1 hfl.2.2.2) hZ (hw _ (oG (i := 95) rfl)) (hw _ (oG (i := 94) rfl)) (by decide) (by decide)) (g := (mkF m 166 #[.val (.ref o0), .val (.ref o1), .val (.ref o2), .val (.long q3), .second, .val (.long q4), .second, .val (.long q5), .second, .val (.long (own_kl LL)), .second, .val (.int (2:Int32))] [(.int (-1:Int32)), (.int ((3:Int32) * sc)), (.int ((2:Int32) * sc)), (.ref bs)])) rfl (by rw [hml]; rfl) (argsL := [(.ref bs), (.int ((2:Int32) * sc)), (.int ((3:Int32) * sc)), (.int (-1:Int32))]) (rest := []) (lenOf pd_rm6_2_3 rfl) rfl (by show 2 * 0 + _ ≤ _; exact Nat.le_of_eq rfl) (hb hby d6_166) (fun _ _ => ⟨rfl, e83, (by decide : 0 + 0 ≤ _), (by decide : 0 + 0 ≤ _)⟩)
  dsimp only [Pt.U, Pt.locs, Pt.cells, Pt.slots] at X84 l84 y84 z84 st84 hQ84
  subst l84 y84 z84
  obtain ⟨rfl, N84q, K84q, A84q⟩ := hQ84
  have N84 := Fr.app N78 N84q
  have Kk_94 : Keep h0 T84.heap [o0, bk, be, bh, bf, bg, bx, bs] := ((((((((((Keep.refl h0 [o0, bk, be, bh, bf, bg, bx, bs]).trans K7q (allS (Or.inl (oG (i := 1) rfl)) all0)).wr W12 (Or.inl (oG (i := 0) rfl))).wr W16 (Or.inl (oG (i := 0) rfl))).wr W25 (Or.inl (oG (i := 2) rfl))).wr W48 (Or.inl (oG (i := 3) rfl))).wr W57 (Or.inl (oG (i := 4) rfl))).wr W67 (Or.inl (oG (i := 5) rfl))).wr W78 (Or.inl (oG (i := 6) rfl))).trans K84q (allS (Or.inl (oG (i := 7) rfl)) all0))
  have Ff_95 : Fld Z T84.heap o0 "com/example/tavola/tavola/profile/RowBatch" "staticColumns" "I" (.int sc) := (Ff_81.keep K84q (ninS (Ne.symm ne_87) nin0))
  have Ff_96 : Fld Z T84.heap o0 "com/example/tavola/tavola/profile/RowBatch" "keysLength" "I" (.int (ss + ((own_kl LL).toInt32))) := ((((((Ff_19.other W25 (Or.inl (Ne.symm ne_22))).other W48 (Or.inl (Ne.symm ne_44))).other W57 (Or.inl (Ne.symm ne_52))).other W67 (Or.inl (Ne.symm ne_61))).other W78 (Or.inl (Ne.symm ne_71))).keep K84q (ninS (Ne.symm ne_87) nin0))
  have Ff_97 : Fld Z T84.heap o0 "com/example/tavola/tavola/profile/RowBatch" "count" "I" (.int (3:Int32)) := ((((((Fw16.other W25 (Or.inl (Ne.symm ne_22))).other W48 (Or.inl (Ne.symm ne_44))).other W57 (Or.inl (Ne.symm ne_52))).other W67 (Or.inl (Ne.symm ne_61))).other W78 (Or.inl (Ne.symm ne_71))).keep K84q (ninS (Ne.symm ne_87) nin0))
  have Ff_98 : Fld Z T84.heap o0 "com/example/tavola/tavola/profile/RowBatch" "keys" "[B" (.ref bk) := (((((((((Fa0.keep K7q (ninS ne_8 nin0)).other W12 (Or.inr (slot_ne (Or.inl (hw _ (oG (i := 35) rfl))) (Or.inl (hw _ (oG (i := 75) rfl))) (by decide) (t := (.array .byte)) (t' := .int) (by decide) (by decide)))).other W16 (Or.inr (slot_ne (Or.inl (hw _ (oG (i := 35) rfl))) (Or.inl (hw _ (oG (i := 86) rfl))) (by decide) (t := (.array .byte)) (t' := .int) (by decide) (by decide)))).other W25 (Or.inl (Ne.symm ne_22))).other W48 (Or.inl (Ne.symm ne_44))).other W57 (Or.inl (Ne.symm ne_52))).other W67 (Or.inl (Ne.symm ne_61))).other W78 (Or.inl (Ne.symm ne_71))).keep K84q (ninS (Ne.symm ne_87) nin0))
  have Ff_99 : Fld Z T84.heap o0 "com/example/tavola/tavola/profile/RowBatch" "keyEnds" "[I" (.ref be) := ((((((Ff_17.other W25 (Or.inl (Ne.symm ne_22))).other W48 (Or.inl (Ne.symm ne_44))).other W57 (Or.inl (Ne.symm ne_52))).other W67 (Or.inl (Ne.symm ne_61))).other W78 (Or.inl (Ne.symm ne_71))).keep K84q (ninS (Ne.symm ne_87) nin0))
  have Ff_100 : Fld Z T84.heap o0 "com/example/tavola/tavola/profile/RowBatch" "hashes" "[I" (.ref bh) := (((((Ff_26.other W48 (Or.inl (Ne.symm ne_44))).other W57 (Or.inl (Ne.symm ne_52))).other W67 (Or.inl (Ne.symm ne_61))).other W78 (Or.inl (Ne.symm ne_71))).keep K84q (ninS (Ne.symm ne_87) nin0))
  have Ff_101 : Fld Z T84.heap o0 "com/example/tavola/tavola/profile/RowBatch" "keyBytes" "[J" (.ref bf) := ((((Ff_49.other W57 (Or.inl (Ne.symm ne_52))).other W67 (Or.inl (Ne.symm ne_61))).other W78 (Or.inl (Ne.symm ne_71))).keep K84q (ninS (Ne.symm ne_87) nin0))
  have Ff_102 : Fld Z T84.heap o0 "com/example/tavola/tavola/profile/RowBatch" "rowBytes" "[J" (.ref bg) := (((Ff_58.other W67 (Or.inl (Ne.symm ne_61))).other W78 (Or.inl (Ne.symm ne_71))).keep K84q (ninS (Ne.symm ne_87) nin0))
  have Ff_103 : Fld Z T84.heap o0 "com/example/tavola/tavola/profile/RowBatch" "regularValues" "[J" (.ref bx) := ((Ff_68.other W78 (Or.inl (Ne.symm ne_71))).keep K84q (ninS (Ne.symm ne_87) nin0))
  have Ff_104 : Fld Z T84.heap o0 "com/example/tavola/tavola/profile/RowBatch" "statics" "[I" (.ref bs) := (Ff_79.keep K84q (ninS (Ne.symm ne_87) nin0))
  have Aa_105 : own_Arf Z T84.heap bk kk .byte (65536:Int32) (.int (0:Int32)) := (own_arfK (own_arfO (own_arfO (own_arfO (own_arfO (own_arfO (own_arfO (own_arfO A7q W12 (Ne.symm ne_8)) W16 (Ne.symm ne_8)) W25 (Ne.symm ne_21)) W48 (Ne.symm ne_43)) W57 (Ne.symm ne_51)) W67 (Ne.symm ne_60)) W78 (Ne.symm ne_70)) K84q (ninS (Ne.symm ne_86) nin0))
  have Va_106 : Arv Z T84.heap be ke .int (1024:Int32) [(.int u0), (.int u1), (.int (ss + ((own_kl LL).toInt32)))] (.int (0:Int32)) := (((((Vs25.other W48 (Ne.symm ne_45)).other W57 (Ne.symm ne_53)).other W67 (Ne.symm ne_62)).other W78 (Ne.symm ne_72)).keep K84q (ninS (Ne.symm ne_88) nin0))
  have Aa_107 : own_Arf Z T84.heap bh kh .int (1024:Int32) (.int (0:Int32)) := (own_arfK (own_arfO (own_arfO (own_arfO As48 W57 (Ne.symm ne_54)) W67 (Ne.symm ne_63)) W78 (Ne.symm ne_73)) K84q (ninS (Ne.symm ne_89) nin0))
  have Aa_108 : own_Arf Z T84.heap bf kf .long (1024:Int32) (.long (0:Int64)) := (own_arfK (own_arfO (own_arfO As57 W67 (Ne.symm ne_64)) W78 (Ne.symm ne_74)) K84q (ninS (Ne.symm ne_90) nin0))
  have Aa_109 : own_Arf Z T84.heap bg kg .long (1024:Int32) (.long (0:Int64)) := (own_arfK (own_arfO As67 W78 (Ne.symm ne_75)) K84q (ninS (Ne.symm ne_91) nin0))
  have Aa_110 : own_Arf Z T84.heap bx kx .long (1024:Int32) (.long (0:Int64)) := (own_arfK As78 K84q (ninS (Ne.symm ne_92) nin0))
  obtain ⟨fs, hr, hrun, hended, hW, hsame⟩ := X84.leave (v := some (.int (2:Int32))) (fun h => by rw [Bd.returns] at h; cases h)
  refine ⟨_, _, pre0 _ ?_, hrun, hended, _, _, rfl, ?_, ⟨_, rfl⟩, hW, hsame.mono (by decide) (by decide)⟩
  · show Steps p.tables e below (s₁.setTop (mkF m 0 #[.val (.ref o0), .val (.ref o1), .val (.ref o2), .val (.long q3), .second, .val (.long q4), .second, .val (.long q5), .second, .unset, .unset, .unset] [])) _
    refine XS.aloadN X0.here hx rfl (hb hby d6_0) rfl rfl ?_
    refine XS.aloadN X0.here hx rfl (hb hby d6_1) rfl rfl ?_
    show Steps p.tables e below (s₁.setTop (mkF m 2 #[.val (.ref o0), .val (.ref o1), .val (.ref o2), .val (.long q3), .second, .val (.long q4), .second, .val (.long q5), .second, .unset, .unset, .unset] [(.ref o2), (.ref o1)])) _
    refine st1.trans ?_
    show Steps p.tables e below (T1.setTop (mkF m 5 #[.val (.ref o0), .val (.ref o1), .val (.ref o2), .val (.long q3), .second, .val (.long q4), .second, .val (.long q5), .second, .unset, .unset, .unset] [(.long (own_kl LL))])) _
    refine XS.lstore X1.here hx rfl (hb hby d6_5) rfl (l' := #[.val (.ref o0), .val (.ref o1), .val (.ref o2), .val (.long q3), .second, .val (.long q4), .second, .val (.long q5), .second, .val (.long (own_kl LL)), .second, .unset]) rfl ?_
    refine XS.aloadN X1.here hx rfl (hb hby d6_7) rfl rfl ?_
    show Steps p.tables e below (T1.setTop (mkF m 8 #[.val (.ref o0), .val (.ref o1), .val (.ref o2), .val (.long q3), .second, .val (.long q4), .second, .val (.long q5), .second, .val (.long (own_kl LL)), .second, .unset] [(.ref o0)])) _
    refine st2 _ ?_
    show Steps p.tables e below (T2.setTop (mkF m 11 #[.val (.ref o0), .val (.ref o1), .val (.ref o2), .val (.long q3), .second, .val (.long q4), .second, .val (.long q5), .second, .val (.long (own_kl LL)), .second, .unset] [(.int ss)])) _
    refine XS.i2l X2.here hx rfl (hb hby d6_11) rfl ?_
    refine XS.lload X2.here hx rfl (hb hby d6_12) rfl ?_
    refine XS.ladd X2.here hx rfl (hb hby d6_14) rfl ?_
    refine XS.aloadN X2.here hx rfl (hb hby d6_15) rfl rfl ?_
    show Steps p.tables e below (T2.setTop (mkF m 16 #[.val (.ref o0), .val (.ref o1), .val (.ref o2), .val (.long q3), .second, .val (.long q4), .second, .val (.long q5), .second, .val (.long (own_kl LL)), .second, .unset] [(.ref o0), (.long ((ss.toInt64) + (own_kl LL)))])) _
    refine st3 _ ?_
    show Steps p.tables e below (T3.setTop (mkF m 19 #[.val (.ref o0), .val (.ref o1), .val (.ref o2), .val (.long q3), .second, .val (.long q4), .second, .val (.long q5), .second, .val (.long (own_kl LL)), .second, .unset] [(.ref bk), (.long ((ss.toInt64) + (own_kl LL)))])) _
    refine X3.arraylength hx (by rw [e3]; exact Ar4.1) (State.isArrayOf_alike hZ.alike Ar4.2.1) (g := (mkF m 19 #[.val (.ref o0), .val (.ref o1), .val (.ref o2), .val (.long q3), .second, .val (.long q4), .second, .val (.long q5), .second, .val (.long (own_kl LL)), .second, .unset] [(.ref bk), (.long ((ss.toInt64) + (own_kl LL)))])) rfl rfl (hb hby d6_19) _ ?_
    rw [len_of S4 N4']
    show Steps p.tables e below (T3.setTop (mkF m 20 #[.val (.ref o0), .val (.ref o1), .val (.ref o2), .val (.long q3), .second, .val (.long q4), .second, .val (.long q5), .second, .val (.long (own_kl LL)), .second, .unset] [(.int (65536:Int32)), (.long ((ss.toInt64) + (own_kl LL)))])) _
    refine XS.i2l X3.here hx rfl (hb hby d6_20) rfl ?_
    refine XS.lcmp X3.here hx rfl (hb hby d6_21) rfl ?_
    refine XS.ifYes X3.here hx rfl (pc0 := 22) (pc' := 58) rfl (hb hby d6_22) rfl ((if0 _ _).trans (flt (fun q => (own_b22 hp0 hp6 hL : ¬ (((65536:Int32).toInt64) < ((ss.toInt64) + (own_kl LL)))) ((lw_gt _ _).mp q))).2.2.2) (by decide) (by decide) ?_
    refine XS.aloadN X3.here hx rfl (hb hby d6_58) rfl rfl ?_
    refine XS.aloadN X3.here hx rfl (hb hby d6_59) rfl rfl ?_
    refine XS.aloadN X3.here hx rfl (hb hby d6_60) rfl rfl ?_
    show Steps p.tables e below (T3.setTop (mkF m 61 #[.val (.ref o0), .val (.ref o1), .val (.ref o2), .val (.long q3), .second, .val (.long q4), .second, .val (.long q5), .second, .val (.long (own_kl LL)), .second, .unset] [(.ref o0), (.ref o2), (.ref o1)])) _
    refine st5 _ ?_
    show Steps p.tables e below (T5.setTop (mkF m 64 #[.val (.ref o0), .val (.ref o1), .val (.ref o2), .val (.long q3), .second, .val (.long q4), .second, .val (.long q5), .second, .val (.long (own_kl LL)), .second, .unset] [(.ref bk), (.ref o2), (.ref o1)])) _
    refine XS.aloadN X5.here hx rfl (hb hby d6_64) rfl rfl ?_
    show Steps p.tables e below (T5.setTop (mkF m 65 #[.val (.ref o0), .val (.ref o1), .val (.ref o2), .val (.long q3), .second, .val (.long q4), .second, .val (.long q5), .second, .val (.long (own_kl LL)), .second, .unset] [(.ref o0), (.ref bk), (.ref o2), (.ref o1)])) _
    refine st6 _ ?_
    show Steps p.tables e below (T6.setTop (mkF m 68 #[.val (.ref o0), .val (.ref o1), .val (.ref o2), .val (.long q3), .second, .val (.long q4), .second, .val (.long q5), .second, .val (.long (own_kl LL)), .second, .unset] [(.int ss), (.ref bk), (.ref o2), (.ref o1)])) _
    refine st7.trans ?_
    show Steps p.tables e below (T7.setTop (mkF m 71 #[.val (.ref o0), .val (.ref o1), .val (.ref o2), .val (.long q3), .second, .val (.long q4), .second, .val (.long q5), .second, .val (.long (own_kl LL)), .second, .unset] [])) _
    refine XS.aloadN X7.here hx rfl (hb hby d6_71) rfl rfl ?_
    refine XS.dup X7.here hx rfl (hb hby d6_72) rfl rfl ?_
    show Steps p.tables e below (T7.setTop (mkF m 73 #[.val (.ref o0), .val (.ref o1), .val (.ref o2), .val (.long q3), .second, .val (.long q4), .second, .val (.long q5), .second, .val (.long (own_kl LL)), .second, .unset] [(.ref o0), (.ref o0)])) _
    refine st10 _ ?_
    show Steps p.tables e below (T10.setTop (mkF m 76 #[.val (.ref o0), .val (.ref o1), .val (.ref o2), .val (.long q3), .second, .val (.long q4), .second, .val (.long q5), .second, .val (.long (own_kl LL)), .second, .unset] [(.int ss), (.ref o0)])) _
    refine XS.lload X10.here hx rfl (hb hby d6_76) rfl ?_
    refine XS.l2i X10.here hx rfl (hb hby d6_78) rfl ?_
    refine XS.iadd X10.here hx rfl (hb hby d6_79) rfl ?_
    show Steps p.tables e below (T10.setTop (mkF m 80 #[.val (.ref o0), .val (.ref o1), .val (.ref o2), .val (.long q3), .second, .val (.long q4), .second, .val (.long q5), .second, .val (.long (own_kl LL)), .second, .unset] [(.int (ss + ((own_kl LL).toInt32))), (.ref o0)])) _
    refine st12 _ ?_
    show Steps p.tables e below (T12.setTop (mkF m 83 #[.val (.ref o0), .val (.ref o1), .val (.ref o2), .val (.long q3), .second, .val (.long q4), .second, .val (.long q5), .second, .val (.long (own_kl LL)), .second, .unset] [])) _
    refine XS.aloadN X12.here hx rfl (hb hby d6_83) rfl rfl ?_
    refine XS.dup X12.here hx rfl (hb hby d6_84) rfl rfl ?_
    show Steps p.tables e below (T12.setTop (mkF m 85 #[.val (.ref o0), .val (.ref o1), .val (.ref o2), .val (.long q3), .second, .val (.long q4), .second, .val (.long q5), .second, .val (.long (own_kl LL)), .second, .unset] [(.ref o0), (.ref o0)])) _
    refine st14 _ ?_
    show Steps p.tables e below (T14.setTop (mkF m 88 #[.val (.ref o0), .val (.ref o1), .val (.ref o2), .val (.long q3), .second, .val (.long q4), .second, .val (.long q5), .second, .val (.long (own_kl LL)), .second, .unset] [(.int (2:Int32)), (.ref o0)])) _
    refine XS.dupX1 X14.here hx rfl (hb hby d6_88) rfl rfl rfl ?_
    refine XS.iconst X14.here hx rfl (hb hby d6_89) ?_
    show Steps p.tables e below (T14.setTop (mkF m 90 #[.val (.ref o0), .val (.ref o1), .val (.ref o2), .val (.long q3), .second, .val (.long q4), .second, .val (.long q5), .second, .val (.long (own_kl LL)), .second, .unset] [(.int (1:Int32)), (.int (2:Int32)), (.ref o0), (.int (2:Int32))])) _
    refine XS.iadd X14.here hx rfl (hb hby d6_90) rfl ?_
    rw [show ((2:Int32) + (1:Int32)) = (3:Int32) from by decide]
    show Steps p.tables e below (T14.setTop (mkF m 91 #[.val (.ref o0), .val (.ref o1), .val (.ref o2), .val (.long q3), .second, .val (.long q4), .second, .val (.long q5), .second, .val (.long (own_kl LL)), .second, .unset] [(.int (3:Int32)), (.ref o0), (.int (2:Int32))])) _
    refine st16 _ ?_
    show Steps p.tables e below (T16.setTop (mkF m 94 #[.val (.ref o0), .val (.ref o1), .val (.ref o2), .val (.long q3), .second, .val (.long q4), .second, .val (.long q5), .second, .val (.long (own_kl LL)), .second, .unset] [(.int (2:Int32))])) _
    refine XS.istore X16.here hx rfl (hb hby d6_94) rfl (l' := #[.val (.ref o0), .val (.ref o1), .val (.ref o2), .val (.long q3), .second, .val (.long q4), .second, .val (.long q5), .second, .val (.long (own_kl LL)), .second, .val (.int (2:Int32))]) rfl ?_
    refine XS.aloadN X16.here hx rfl (hb hby d6_96) rfl rfl ?_
    show Steps p.tables e below (T16.setTop (mkF m 97 #[.val (.ref o0), .val (.ref o1), .val (.ref o2), .val (.long q3), .second, .val (.long q4), .second, .val (.long q5), .second, .val (.long (own_kl LL)), .second, .val (.int (2:Int32))] [(.ref o0)])) _
    refine st18 _ ?_
    show Steps p.tables e below (T18.setTop (mkF m 100 #[.val (.ref o0), .val (.ref o1), .val (.ref o2), .val (.long q3), .second, .val (.long q4), .second, .val (.long q5), .second, .val (.long (own_kl LL)), .second, .val (.int (2:Int32))] [(.ref be)])) _
    refine XS.iload X18.here hx rfl (hb hby d6_100) rfl ?_
    refine XS.aloadN X18.here hx rfl (hb hby d6_102) rfl rfl ?_
    show Steps p.tables e below (T18.setTop (mkF m 103 #[.val (.ref o0), .val (.ref o1), .val (.ref o2), .val (.long q3), .second, .val (.long q4), .second, .val (.long q5), .second, .val (.long (own_kl LL)), .second, .val (.int (2:Int32))] [(.ref o0), (.int (2:Int32)), (.ref be)])) _
    refine st20 _ ?_
    show Steps p.tables e below (T20.setTop (mkF m 106 #[.val (.ref o0), .val (.ref o1), .val (.ref o2), .val (.long q3), .second, .val (.long q4), .second, .val (.long q5), .second, .val (.long (own_kl LL)), .second, .val (.int (2:Int32))] [(.int (ss + ((own_kl LL).toInt32))), (.int (2:Int32)), (.ref be)])) _
    refine st25 _ ?_
    show Steps p.tables e below (T25.setTop (mkF m 107 #[.val (.ref o0), .val (.ref o1), .val (.ref o2), .val (.long q3), .second, .val (.long q4), .second, .val (.long q5), .second, .val (.long (own_kl LL)), .second, .val (.int (2:Int32))] [])) _
    refine XS.aloadN X25.here hx rfl (hb hby d6_107) rfl rfl ?_
    show Steps p.tables e below (T25.setTop (mkF m 108 #[.val (.ref o0), .val (.ref o1), .val (.ref o2), .val (.long q3), .second, .val (.long q4), .second, .val (.long q5), .second, .val (.long (own_kl LL)), .second, .val (.int (2:Int32))] [(.ref o0)])) _
    refine st27 _ ?_
    show Steps p.tables e below (T27.setTop (mkF m 111 #[.val (.ref o0), .val (.ref o1), .val (.ref o2), .val (.long q3), .second, .val (.long q4), .second, .val (.long q5), .second, .val (.long (own_kl LL)), .second, .val (.int (2:Int32))] [(.ref bh)])) _
    refine XS.iload X27.here hx rfl (hb hby d6_111) rfl ?_
    refine XS.aloadN X27.here hx rfl (hb hby d6_113) rfl rfl ?_
    refine XS.aloadN X27.here hx rfl (hb hby d6_114) rfl rfl ?_
    show Steps p.tables e below (T27.setTop (mkF m 115 #[.val (.ref o0), .val (.ref o1), .val (.ref o2), .val (.long q3), .second, .val (.long q4), .second, .val (.long q5), .second, .val (.long (own_kl LL)), .second, .val (.int (2:Int32))] [(.ref o2), (.ref o1), (.int (2:Int32)), (.ref bh)])) _
    refine st28.trans ?_
    show Steps p.tables e below (T28.setTop (mkF m 118 #[.val (.ref o0), .val (.ref o1), .val (.ref o2), .val (.long q3), .second, .val (.long q4), .second, .val (.long q5), .second, .val (.long (own_kl LL)), .second, .val (.int (2:Int32))] [(.int (0:Int32)), (.int (2:Int32)), (.ref bh)])) _
    refine st48 _ ?_
    show Steps p.tables e below (T48.setTop (mkF m 119 #[.val (.ref o0), .val (.ref o1), .val (.ref o2), .val (.long q3), .second, .val (.long q4), .second, .val (.long q5), .second, .val (.long (own_kl LL)), .second, .val (.int (2:Int32))] [])) _
    refine XS.aloadN X48.here hx rfl (hb hby d6_119) rfl rfl ?_
    show Steps p.tables e below (T48.setTop (mkF m 120 #[.val (.ref o0), .val (.ref o1), .val (.ref o2), .val (.long q3), .second, .val (.long q4), .second, .val (.long q5), .second, .val (.long (own_kl LL)), .second, .val (.int (2:Int32))] [(.ref o0)])) _
    refine st50 _ ?_
    show Steps p.tables e below (T50.setTop (mkF m 123 #[.val (.ref o0), .val (.ref o1), .val (.ref o2), .val (.long q3), .second, .val (.long q4), .second, .val (.long q5), .second, .val (.long (own_kl LL)), .second, .val (.int (2:Int32))] [(.ref bf)])) _
    refine XS.iload X50.here hx rfl (hb hby d6_123) rfl ?_
    refine XS.lloadN X50.here hx rfl (hb hby d6_125) rfl ?_
    show Steps p.tables e below (T50.setTop (mkF m 126 #[.val (.ref o0), .val (.ref o1), .val (.ref o2), .val (.long q3), .second, .val (.long q4), .second, .val (.long q5), .second, .val (.long (own_kl LL)), .second, .val (.int (2:Int32))] [(.long q3), (.int (2:Int32)), (.ref bf)])) _
    refine st57 _ ?_
    show Steps p.tables e below (T57.setTop (mkF m 127 #[.val (.ref o0), .val (.ref o1), .val (.ref o2), .val (.long q3), .second, .val (.long q4), .second, .val (.long q5), .second, .val (.long (own_kl LL)), .second, .val (.int (2:Int32))] [])) _
    refine XS.aloadN X57.here hx rfl (hb hby d6_127) rfl rfl ?_
    show Steps p.tables e below (T57.setTop (mkF m 128 #[.val (.ref o0), .val (.ref o1), .val (.ref o2), .val (.long q3), .second, .val (.long q4), .second, .val (.long q5), .second, .val (.long (own_kl LL)), .second, .val (.int (2:Int32))] [(.ref o0)])) _
    refine st59 _ ?_
    show Steps p.tables e below (T59.setTop (mkF m 131 #[.val (.ref o0), .val (.ref o1), .val (.ref o2), .val (.long q3), .second, .val (.long q4), .second, .val (.long q5), .second, .val (.long (own_kl LL)), .second, .val (.int (2:Int32))] [(.ref bg)])) _
    refine XS.iload X59.here hx rfl (hb hby d6_131) rfl ?_
    refine XS.lload X59.here hx rfl (hb hby d6_133) rfl ?_
    show Steps p.tables e below (T59.setTop (mkF m 135 #[.val (.ref o0), .val (.ref o1), .val (.ref o2), .val (.long q3), .second, .val (.long q4), .second, .val (.long q5), .second, .val (.long (own_kl LL)), .second, .val (.int (2:Int32))] [(.long q4), (.int (2:Int32)), (.ref bg)])) _
    refine st67 _ ?_
    show Steps p.tables e below (T67.setTop (mkF m 136 #[.val (.ref o0), .val (.ref o1), .val (.ref o2), .val (.long q3), .second, .val (.long q4), .second, .val (.long q5), .second, .val (.long (own_kl LL)), .second, .val (.int (2:Int32))] [])) _
    refine XS.aloadN X67.here hx rfl (hb hby d6_136) rfl rfl ?_
    show Steps p.tables e below (T67.setTop (mkF m 137 #[.val (.ref o0), .val (.ref o1), .val (.ref o2), .val (.long q3), .second, .val (.long q4), .second, .val (.long q5), .second, .val (.long (own_kl LL)), .second, .val (.int (2:Int32))] [(.ref o0)])) _
    refine st69 _ ?_
    show Steps p.tables e below (T69.setTop (mkF m 140 #[.val (.ref o0), .val (.ref o1), .val (.ref o2), .val (.long q3), .second, .val (.long q4), .second, .val (.long q5), .second, .val (.long (own_kl LL)), .second, .val (.int (2:Int32))] [(.ref bx)])) _
    refine XS.iload X69.here hx rfl (hb hby d6_140) rfl ?_
    refine XS.lload X69.here hx rfl (hb hby d6_142) rfl ?_
    show Steps p.tables e below (T69.setTop (mkF m 144 #[.val (.ref o0), .val (.ref o1), .val (.ref o2), .val (.long q3), .second, .val (.long q4), .second, .val (.long q5), .second, .val (.long (own_kl LL)), .second, .val (.int (2:Int32))] [(.long q5), (.int (2:Int32)), (.ref bx)])) _
    refine st78 _ ?_
    show Steps p.tables e below (T78.setTop (mkF m 145 #[.val (.ref o0), .val (.ref o1), .val (.ref o2), .val (.long q3), .second, .val (.long q4), .second, .val (.long q5), .second, .val (.long (own_kl LL)), .second, .val (.int (2:Int32))] [])) _
    refine XS.aloadN X78.here hx rfl (hb hby d6_145) rfl rfl ?_
    show Steps p.tables e below (T78.setTop (mkF m 146 #[.val (.ref o0), .val (.ref o1), .val (.ref o2), .val (.long q3), .second, .val (.long q4), .second, .val (.long q5), .second, .val (.long (own_kl LL)), .second, .val (.int (2:Int32))] [(.ref o0)])) _
    refine st80 _ ?_
    show Steps p.tables e below (T80.setTop (mkF m 149 #[.val (.ref o0), .val (.ref o1), .val (.ref o2), .val (.long q3), .second, .val (.long q4), .second, .val (.long q5), .second, .val (.long (own_kl LL)), .second, .val (.int (2:Int32))] [(.ref bs)])) _
    refine XS.iload X80.here hx rfl (hb hby d6_149) rfl ?_
    refine XS.aloadN X80.here hx rfl (hb hby d6_151) rfl rfl ?_
    show Steps p.tables e below (T80.setTop (mkF m 152 #[.val (.ref o0), .val (.ref o1), .val (.ref o2), .val (.long q3), .second, .val (.long q4), .second, .val (.long q5), .second, .val (.long (own_kl LL)), .second, .val (.int (2:Int32))] [(.ref o0), (.int (2:Int32)), (.ref bs)])) _
    refine st82 _ ?_
    show Steps p.tables e below (T82.setTop (mkF m 155 #[.val (.ref o0), .val (.ref o1), .val (.ref o2), .val (.long q3), .second, .val (.long q4), .second, .val (.long q5), .second, .val (.long (own_kl LL)), .second, .val (.int (2:Int32))] [(.int sc), (.int (2:Int32)), (.ref bs)])) _
    refine XS.imul X82.here hx rfl (hb hby d6_155) rfl ?_
    refine XS.iload X82.here hx rfl (hb hby d6_156) rfl ?_
    refine XS.iconst X82.here hx rfl (hb hby d6_158) ?_
    show Steps p.tables e below (T82.setTop (mkF m 159 #[.val (.ref o0), .val (.ref o1), .val (.ref o2), .val (.long q3), .second, .val (.long q4), .second, .val (.long q5), .second, .val (.long (own_kl LL)), .second, .val (.int (2:Int32))] [(.int (1:Int32)), (.int (2:Int32)), (.int ((2:Int32) * sc)), (.ref bs)])) _
    refine XS.iadd X82.here hx rfl (hb hby d6_159) rfl ?_
    rw [show ((2:Int32) + (1:Int32)) = (3:Int32) from by decide]
    show Steps p.tables e below (T82.setTop (mkF m 160 #[.val (.ref o0), .val (.ref o1), .val (.ref o2), .val (.long q3), .second, .val (.long q4), .second, .val (.long q5), .second, .val (.long (own_kl LL)), .second, .val (.int (2:Int32))] [(.int (3:Int32)), (.int ((2:Int32) * sc)), (.ref bs)])) _
    refine XS.aloadN X82.here hx rfl (hb hby d6_160) rfl rfl ?_
    show Steps p.tables e below (T82.setTop (mkF m 161 #[.val (.ref o0), .val (.ref o1), .val (.ref o2), .val (.long q3), .second, .val (.long q4), .second, .val (.long q5), .second, .val (.long (own_kl LL)), .second, .val (.int (2:Int32))] [(.ref o0), (.int (3:Int32)), (.int ((2:Int32) * sc)), (.ref bs)])) _
    refine st83 _ ?_
    show Steps p.tables e below (T83.setTop (mkF m 164 #[.val (.ref o0), .val (.ref o1), .val (.ref o2), .val (.long q3), .second, .val (.long q4), .second, .val (.long q5), .second, .val (.long (own_kl LL)), .second, .val (.int (2:Int32))] [(.int sc), (.int (3:Int32)), (.int ((2:Int32) * sc)), (.ref bs)])) _
    refine XS.imul X83.here hx rfl (hb hby d6_164) rfl ?_
    refine XS.iconst X83.here hx rfl (hb hby d6_165) ?_
    show Steps p.tables e below (T83.setTop (mkF m 166 #[.val (.ref o0), .val (.ref o1), .val (.ref o2), .val (.long q3), .second, .val (.long q4), .second, .val (.long q5), .second, .val (.long (own_kl LL)), .second, .val (.int (2:Int32))] [(.int (-1:Int32)), (.int ((3:Int32) * sc)), (.int ((2:Int32) * sc)), (.ref bs)])) _
    refine st84 _ ?_
    show Steps p.tables e below (T84.setTop (mkF m 169 #[.val (.ref o0), .val (.ref o1), .val (.ref o2), .val (.long q3), .second, .val (.long q4), .second, .val (.long q5), .second, .val (.long (own_kl LL)), .second, .val (.int (2:Int32))] [])) _
    refine XS.iload X84.here hx rfl (hb hby d6_169) rfl ?_
    show Steps p.tables e below (T84.setTop (mkF m 171 #[.val (.ref o0), .val (.ref o1), .val (.ref o2), .val (.long q3), .second, .val (.long q4), .second, .val (.long q5), .second, .val (.long (own_kl LL)), .second, .val (.int (2:Int32))] [(.int (2:Int32))])) _
    exact retI X84 hx Bd.returns (hb hby d6_171) hr
  · show rm6_2Q Z o0 bn br bk be bh bf bg bx bs kn kr k1 kk ke kh kf kg kx ks LL sc ss u0 u1 u2 h0 n0 _ T84.heap _
    exact ⟨rfl, N84, Kk_94, Ff_95, Ff_96, Ff_97, Ff_98, Ff_99, Ff_100, Ff_101, Ff_102, Ff_103, Ff_104, Aa_105, Va_106, Aa_107, Aa_108, Aa_109, Aa_110, A84q⟩
section OwnLaw
variable {p q l l0 l1 l2 nn rr x y : Int32} {Z : State} {h : Heap}
theorem own_getD1 (dv : Value) (n : Nat) : ∀ i, ([] : List Value).getD i dv = (List.replicate n dv).getD i dv := fun i => by have := pad_rep [] dv n i; simpa using this.symm
theorem own_pad16 : ∀ i, ([] : List Value).getD i (.int (0:Int32)) = [(.int (0:Int32)), (.int (0:Int32)), (.int (0:Int32)), (.int (0:Int32)), (.int (0:Int32)), (.int (0:Int32)), (.int (0:Int32)), (.int (0:Int32)), (.int (0:Int32)), (.int (0:Int32)), (.int (0:Int32)), (.int (0:Int32)), (.int (0:Int32)), (.int (0:Int32)), (.int (0:Int32)), (.int (0:Int32))].getD i (.int (0:Int32)) := own_getD1 _ 16
theorem own_picked (hl : l = (0:Int32) ∨ l = (1:Int32) ∨ l = (2:Int32) ∨ l = (3:Int32)) {b1 b2 b3 b4 r : Nat} {k1 k2 k3 k4 : ClassId}
    (V1 : Arv Z h b1 k1 .int (1:Int32) [(.int (0:Int32))] (.int (0:Int32))) (V2 : Arv Z h b2 k2 .int (2:Int32) [(.int (0:Int32)), (.int (0:Int32))] (.int (0:Int32)))
    (V3 : Arv Z h b3 k3 .int (3:Int32) [(.int (0:Int32)), (.int (0:Int32)), (.int (0:Int32))] (.int (0:Int32))) (V4 : Arv Z h b4 k4 .int (4:Int32) [(.int (0:Int32)), (.int (0:Int32)), (.int (0:Int32)), (.int (0:Int32))] (.int (0:Int32)))
    (h1 : b1 < b2) (h2 : b2 < b3) (h3 : b3 < b4) (h4 : b4 < r) : ∃ (c : Nat) (kc : ClassId), c = own_pick l b1 b2 b3 b4 ∧ Arv Z h c kc .int (l + (1:Int32)) [] (.int (0:Int32)) ∧ c < r := by
  rcases hl with rfl | rfl | rfl | rfl
  · exact ⟨b1, k1, rfl, V1.pad (own_getD1 _ 1), by omega⟩
  · exact ⟨b2, k2, rfl, V2.pad (own_getD1 _ 2), by omega⟩
  · exact ⟨b3, k3, rfl, V3.pad (own_getD1 _ 3), by omega⟩
  · exact ⟨b4, k4, rfl, V4.pad (own_getD1 _ 4), by omega⟩
theorem own_hL (hl : l = (0:Int32) ∨ l = (1:Int32) ∨ l = (2:Int32) ∨ l = (3:Int32)) : (l + (1:Int32)) = (1:Int32) ∨ (l + (1:Int32)) = (2:Int32) ∨ (l + (1:Int32)) = (3:Int32) ∨ (l + (1:Int32)) = (4:Int32) := by
  rcases hl with rfl | rfl | rfl | rfl <;> decide
theorem own_s1 (hl : l0 = (p &&& (3:Int32))) : ¬ ((0:Int32) + ((own_kl (l0 + (1:Int32))).toInt32)) < (0:Int32) ∧ ¬ (6:Int32) < ((0:Int32) + ((own_kl (l0 + (1:Int32))).toInt32)) := by
  have hl := own_l03 hl
  rcases hl with rfl | rfl | rfl | rfl <;> decide
theorem own_s2 (hl : l0 = (p &&& (3:Int32))) (hl' : l1 = (q &&& (3:Int32))) : ¬ (((0:Int32) + ((own_kl (l0 + (1:Int32))).toInt32)) + ((own_kl (l1 + (1:Int32))).toInt32)) < (0:Int32) ∧ ¬ (6:Int32) < (((0:Int32) + ((own_kl (l0 + (1:Int32))).toInt32)) + ((own_kl (l1 + (1:Int32))).toInt32)) := by
  have hl := own_l03 hl
  have hl' := own_l03 hl'
  rcases hl with rfl | rfl | rfl | rfl <;> rcases hl' with rfl | rfl | rfl | rfl <;> decide
theorem own_remB (d : Int) (hy : y.toInt = d) (hd : 0 < d) (h : rr = own_irem (p &&& (2147483647:Int32)) y) : 0 ≤ rr.toInt ∧ rr.toInt < d := by
  have h1 := c_mask p 2147483647 31 (by decide) (by decide)
  have h2 := (c_iremV (p &&& 2147483647) y).1
  rw [own_irem_mod] at h
  rw [← h] at h2
  subst hy
  have := h2 (by omega) hd
  exact ⟨this.1, this.2.1⟩
theorem own_nn (h : nn = own_irem (p &&& (2147483647:Int32)) (4:Int32)) : nn = (0:Int32) ∨ nn = (1:Int32) ∨ nn = (2:Int32) ∨ nn = (3:Int32) := by
  have := own_remB 4 (by decide) (by decide) h
  simp only [← Int32.toInt_inj, show (0:Int32).toInt = 0 by decide, show (1:Int32).toInt = 1 by decide, show (2:Int32).toInt = 2 by decide, show (3:Int32).toInt = 3 by decide]
  omega
theorem own_rnz (h : nn = own_irem (p &&& (2147483647:Int32)) (4:Int32)) : (nn + (1:Int32)) ≠ 0 := by
  have h := own_nn h
  rcases h with rfl | rfl | rfl | rfl <;> decide
theorem own_rr0 (h : rr = own_irem (p &&& (2147483647:Int32)) ((0:Int32) + (1:Int32))) : rr = (0:Int32) := by
  have := own_remB 1 (by decide) (by decide) h
  simp only [← Int32.toInt_inj, show (0:Int32).toInt = 0 by decide]
  omega
theorem own_rr1 (h : rr = own_irem (p &&& (2147483647:Int32)) ((1:Int32) + (1:Int32))) : rr = (0:Int32) ∨ rr = (1:Int32) := by
  have := own_remB 2 (by decide) (by decide) h
  simp only [← Int32.toInt_inj, show (0:Int32).toInt = 0 by decide, show (1:Int32).toInt = 1 by decide]
  omega
theorem own_rr2 (h : rr = own_irem (p &&& (2147483647:Int32)) ((2:Int32) + (1:Int32))) : rr = (0:Int32) ∨ rr = (1:Int32) ∨ rr = (2:Int32) := by
  have := own_remB 3 (by decide) (by decide) h
  simp only [← Int32.toInt_inj, show (0:Int32).toInt = 0 by decide, show (1:Int32).toInt = 1 by decide, show (2:Int32).toInt = 2 by decide]
  omega
theorem own_rr3 (h : rr = own_irem (p &&& (2147483647:Int32)) ((3:Int32) + (1:Int32))) : rr = (0:Int32) ∨ rr = (1:Int32) ∨ rr = (2:Int32) ∨ rr = (3:Int32) := own_nn h
def own_Q4 : List Int32 := [0, 1, 2, 3]
theorem own_in4 (hl : l = (0:Int32) ∨ l = (1:Int32) ∨ l = (2:Int32) ∨ l = (3:Int32)) : l ∈ own_Q4 := by
  rcases hl with rfl | rfl | rfl | rfl <;> decide
theorem own_fin1 (P : Int32 → Prop) (H : ∀ a ∈ own_Q4, P a) (hl : l0 = (0:Int32) ∨ l0 = (1:Int32) ∨ l0 = (2:Int32) ∨ l0 = (3:Int32)) : P l0 := H _ (own_in4 hl)
theorem own_fin2 (P : Int32 → Int32 → Prop) (H : ∀ a ∈ own_Q4, ∀ b ∈ own_Q4, P a b) (hl : l0 = (0:Int32) ∨ l0 = (1:Int32) ∨ l0 = (2:Int32) ∨ l0 = (3:Int32)) (hl' : l1 = (0:Int32) ∨ l1 = (1:Int32) ∨ l1 = (2:Int32) ∨ l1 = (3:Int32)) : P l0 l1 := H _ (own_in4 hl) _ (own_in4 hl')
theorem own_fin3 (P : Int32 → Int32 → Int32 → Prop) (H : ∀ a ∈ own_Q4, ∀ b ∈ own_Q4, ∀ c ∈ own_Q4, P a b c) (hl : l0 = (0:Int32) ∨ l0 = (1:Int32) ∨ l0 = (2:Int32) ∨ l0 = (3:Int32)) (hl' : l1 = (0:Int32) ∨ l1 = (1:Int32) ∨ l1 = (2:Int32) ∨ l1 = (3:Int32)) (hl2 : l2 = (0:Int32) ∨ l2 = (1:Int32) ∨ l2 = (2:Int32) ∨ l2 = (3:Int32)) : P l0 l1 l2 := H _ (own_in4 hl) _ (own_in4 hl') _ (own_in4 hl2)
end OwnLaw

theorem pn_0 : plainName "com/example/tavola/tavola/profile/RowBatchKeyStartPinLaw" = true := by first | (simp [plainName, overriddenIn]; done) | decide +kernel
theorem pd_rm0_0 : parseMethodDescriptor "(Ljava/io/InputStream;)V" = some ⟨[(.object "java/io/InputStream")], none⟩ := by decide +kernel
theorem pd_rm0_1 : parseMethodDescriptor "(I)V" = some ⟨[.int], none⟩ := by decide +kernel
theorem pd_rm0_2 : parseMethodDescriptor "(I)I" = some ⟨[.int], some .int⟩ := by decide +kernel
theorem pd_rm0_3 : parseMethodDescriptor "(I[I[I[I[I)[I" = some ⟨[.int, (.array .int), (.array .int), (.array .int), (.array .int)], some (.array .int)⟩ := by decide +kernel
theorem pd_rm0_4 : parseMethodDescriptor "(Lcom/example/tavola/tavola/profile/CsvReader;[IJJJ)I" = some ⟨[(.object "com/example/tavola/tavola/profile/CsvReader"), (.array .int), .long, .long, .long], some .int⟩ := by decide +kernel
theorem ef_rm0 (m : MethodId) (p0 : Int32) (p1 : Int32) (p2 : Int32) (p3 : Int32) (p4 : Int32) : entryFrame m #[(.int p0), (.int p1), (.int p2), (.int p3), (.int p4)] maxLocals = mkF m 0 #[.val (.int p0), .val (.int p1), .val (.int p2), .val (.int p3), .val (.int p4), .unset, .unset, .unset, .unset, .unset, .unset, .unset, .unset, .unset, .unset, .unset, .unset, .unset, .unset, .unset] [] := by first | (simp [entryFrame, mkF, argsToLocals, Value.category, maxLocals]; done) | rfl
def rm0Q (Z : State) (p0 p1 p2 p3 p4 : Int32) (h0 : Heap) (n0 : Nat) (v : Option Value) (h : Heap) (L : List Loc) : Prop := v = some (.int (1:Int32)) ∧ Fr n0 L
set_option maxRecDepth 65536 in
set_option maxHeartbeats 40000000 in
theorem rm0 (l : Launch) (Z : State) (aw : Array Value) (hw : ∀ d ∈ tables_1, d.before aw Z = true) (ws : List Jvm.Cond) (p0 : Int32) (p1 : Int32) (p2 : Int32) (p3 : Int32) (p4 : Int32) (h0 : Heap) (n0 : Nat) (Z0 : n0 ≤ h0.size) :
    MetFree l x (head1 (Jvm.Cond.code x code maxLocals ret :: ws) room_1) (fun a U => a = #[(.int p0), (.int p1), (.int p2), (.int p3), (.int p4)] ∧ Z.Warmed39 U.vm ∧ U.heap = h0) (fun _ _ _ _ _ => True) (fun _ U o U' => ∃ v L, o = .returned v ∧ rm0Q Z p0 p1 p2 p3 p4 h0 n0 v U'.heap L ∧ FrameEnd U o U' L room_1.cells room_1.slots) := by
  refine MetFree.of_bodySF (plainFor_of_name pn_0) hisR ?_
  intro p e s m args below meth c s₁ Bd hml0 hP hK
  obtain ⟨rfl, hZ, hh⟩ := hP
  have hx := Bd.exec
  have hby := Bd.bytes
  have hml : c.maxLocals = 20 := hml0
  have hown : s.vm.findClass "com/example/tavola/tavola/profile/RowBatchKeyStartPinLaw" = some m.cls := findClass_of_methodNamed Bd.named
  have hnm := (name_of_methodNamed Bd.named Bd.method).1
  have X0 : Stand p l e room_1 s m #[(.int p0), (.int p1), (.int p2), (.int p3), (.int p4)] below meth c s₁ [] 0 0 := Stand.of_body Bd
  have e0 : s₁.heap = h0 := by rw [← hh, Bd.state]; rfl
  have N0 := Fr.nil n0
  have pre0 : ∀ t, Steps p.tables e below (s₁.setTop (mkF m 0 #[.val (.int p0), .val (.int p1), .val (.int p2), .val (.int p3), .val (.int p4), .unset, .unset, .unset, .unset, .unset, .unset, .unset, .unset, .unset, .unset, .unset, .unset, .unset, .unset, .unset] [])) t → Steps p.tables e below (s₁.setTop (entryFrame m #[(.int p0), (.int p1), (.int p2), (.int p3), (.int p4)] maxLocals)) t := fun t k => castTop (ef_rm0 m p0 p1 p2 p3 p4) k
  obtain ⟨T1, h1, k1, X1, e1, E1, A1, st1⟩ := newP X0 hx hZ (hw _ (oG (i := 0) rfl)) e0 (g := (mkF m 1 #[.val (.int p0), .val (.int p1), .val (.int p2), .val (.int p3), .val (.int p4), .unset, .unset, .unset, .unset, .unset, .unset, .unset, .unset, .unset, .unset, .unset, .unset, .unset, .unset, .unset] [(.int (1:Int32))])) rfl (hb hby at_1) rfl (by decide) (cap := 1) (by decide) (by decide) (by decide) (by decide)
  obtain ⟨b1, g1⟩ : ∃ z, z = h0.size := ⟨_, rfl⟩
  rw [← g1] at A1 st1
  have g_b1 : n0 ≤ b1 := Nat.le_trans Z0 (Nat.le_of_eq g1.symm)
  have sz_b1 : h0.size ≤ b1 := Nat.le_trans (Keep.refl h0 []).1 (Nat.le_of_eq g1.symm)
  have V_b1 : Arv Z h1 b1 k1 .int (1:Int32) [(.int (0:Int32))] (.int (0:Int32)) := (Arv.new A1 (by decide)).pad (pad_rep [] (.int (0:Int32)) 1)
  have Kk_2 : Keep h0 h1 [] := ((Keep.refl h0 []).ext E1)
  have Zz_3 : n0 ≤ h1.size := (Nat.le_trans Z0 E1.1)
  obtain ⟨T4, h4, k4, X4, e4, E4, A4, st4⟩ := newP X1 hx hZ (hw _ (oG (i := 0) rfl)) e1 (g := (mkF m 6 #[.val (.int p0), .val (.int p1), .val (.int p2), .val (.int p3), .val (.int p4), .val (.ref b1), .unset, .unset, .unset, .unset, .unset, .unset, .unset, .unset, .unset, .unset, .unset, .unset, .unset, .unset] [(.int (2:Int32))])) rfl (hb hby at_6) rfl (by decide) (cap := 2) (by decide) (by decide) (by decide) (by decide)
  obtain ⟨b4, g4⟩ : ∃ z, z = h1.size := ⟨_, rfl⟩
  rw [← g4] at A4 st4
  have g_b4 : n0 ≤ b4 := Nat.le_trans Zz_3 (Nat.le_of_eq g4.symm)
  have sz_b4 : h0.size ≤ b4 := Nat.le_trans Kk_2.1 (Nat.le_of_eq g4.symm)
  have lt_b1_b4 : b1 < b4 := Nat.lt_of_lt_of_le V_b1.lt (Nat.le_of_eq g4.symm)
  have V_b4 : Arv Z h4 b4 k4 .int (2:Int32) [(.int (0:Int32)), (.int (0:Int32))] (.int (0:Int32)) := (Arv.new A4 (by decide)).pad (pad_rep [] (.int (0:Int32)) 2)
  have Kk_5 : Keep h0 h4 [] := (Kk_2.ext E4)
  have Zz_6 : n0 ≤ h4.size := (Nat.le_trans Zz_3 E4.1)
  have Va_7 : Arv Z h4 b1 k1 .int (1:Int32) [(.int (0:Int32))] (.int (0:Int32)) := (V_b1.ext E4)
  obtain ⟨T8, h8, k8, X8, e8, E8, A8, st8⟩ := newP X4 hx hZ (hw _ (oG (i := 0) rfl)) e4 (g := (mkF m 11 #[.val (.int p0), .val (.int p1), .val (.int p2), .val (.int p3), .val (.int p4), .val (.ref b1), .val (.ref b4), .unset, .unset, .unset, .unset, .unset, .unset, .unset, .unset, .unset, .unset, .unset, .unset, .unset] [(.int (3:Int32))])) rfl (hb hby at_11) rfl (by decide) (cap := 3) (by decide) (by decide) (by decide) (by decide)
  obtain ⟨b8, g8⟩ : ∃ z, z = h4.size := ⟨_, rfl⟩
  rw [← g8] at A8 st8
  have g_b8 : n0 ≤ b8 := Nat.le_trans Zz_6 (Nat.le_of_eq g8.symm)
  have sz_b8 : h0.size ≤ b8 := Nat.le_trans Kk_5.1 (Nat.le_of_eq g8.symm)
  have lt_b1_b8 : b1 < b8 := Nat.lt_of_lt_of_le Va_7.lt (Nat.le_of_eq g8.symm)
  have lt_b4_b8 : b4 < b8 := Nat.lt_of_lt_of_le V_b4.lt (Nat.le_of_eq g8.symm)
  have V_b8 : Arv Z h8 b8 k8 .int (3:Int32) [(.int (0:Int32)), (.int (0:Int32)), (.int (0:Int32))] (.int (0:Int32)) := (Arv.new A8 (by decide)).pad (pad_rep [] (.int (0:Int32)) 3)
  have Kk_9 : Keep h0 h8 [] := (Kk_5.ext E8)
  have Zz_10 : n0 ≤ h8.size := (Nat.le_trans Zz_6 E8.1)
  have Va_11 : Arv Z h8 b1 k1 .int (1:Int32) [(.int (0:Int32))] (.int (0:Int32)) := (Va_7.ext E8)
  have Va_12 : Arv Z h8 b4 k4 .int (2:Int32) [(.int (0:Int32)), (.int (0:Int32))] (.int (0:Int32)) := (V_b4.ext E8)
  obtain ⟨T13, h13, k13, X13, e13, E13, A13, st13⟩ := newP X8 hx hZ (hw _ (oG (i := 0) rfl)) e8 (g := (mkF m 16 #[.val (.int p0), .val (.int p1), .val (.int p2), .val (.int p3), .val (.int p4), .val (.ref b1), .val (.ref b4), .val (.ref b8), .unset, .unset, .unset, .unset, .unset, .unset, .unset, .unset, .unset, .unset, .unset, .unset] [(.int (4:Int32))])) rfl (hb hby at_16) rfl (by decide) (cap := 4) (by decide) (by decide) (by decide) (by decide)
  obtain ⟨b13, g13⟩ : ∃ z, z = h8.size := ⟨_, rfl⟩
  rw [← g13] at A13 st13
  have g_b13 : n0 ≤ b13 := Nat.le_trans Zz_10 (Nat.le_of_eq g13.symm)
  have sz_b13 : h0.size ≤ b13 := Nat.le_trans Kk_9.1 (Nat.le_of_eq g13.symm)
  have lt_b1_b13 : b1 < b13 := Nat.lt_of_lt_of_le Va_11.lt (Nat.le_of_eq g13.symm)
  have lt_b4_b13 : b4 < b13 := Nat.lt_of_lt_of_le Va_12.lt (Nat.le_of_eq g13.symm)
  have lt_b8_b13 : b8 < b13 := Nat.lt_of_lt_of_le V_b8.lt (Nat.le_of_eq g13.symm)
  have V_b13 : Arv Z h13 b13 k13 .int (4:Int32) [(.int (0:Int32)), (.int (0:Int32)), (.int (0:Int32)), (.int (0:Int32))] (.int (0:Int32)) := (Arv.new A13 (by decide)).pad (pad_rep [] (.int (0:Int32)) 4)
  have pre14 : ∀ t, Steps p.tables e below (T13.setTop (mkF m 26 #[.val (.int p0), .val (.int p1), .val (.int p2), .val (.int p3), .val (.int p4), .val (.ref b1), .val (.ref b4), .val (.ref b8), .val (.ref b13), .unset, .unset, .unset, .unset, .unset, .unset, .unset, .unset, .unset, .unset, .unset] [(.int (own_irem (p0 &&& (2147483647:Int32)) (4:Int32)))])) t → Steps p.tables e below (s₁.setTop (entryFrame m #[(.int p0), (.int p1), (.int p2), (.int p3), (.int p4)] maxLocals)) t := fun t k => pre0 t (by
    show Steps p.tables e below (s₁.setTop (mkF m 0 #[.val (.int p0), .val (.int p1), .val (.int p2), .val (.int p3), .val (.int p4), .unset, .unset, .unset, .unset, .unset, .unset, .unset, .unset, .unset, .unset, .unset, .unset, .unset, .unset, .unset] [])) _
    refine XS.iconst X0.here hx rfl (hb hby at_0) ?_
    show Steps p.tables e below (s₁.setTop (mkF m 1 #[.val (.int p0), .val (.int p1), .val (.int p2), .val (.int p3), .val (.int p4), .unset, .unset, .unset, .unset, .unset, .unset, .unset, .unset, .unset, .unset, .unset, .unset, .unset, .unset, .unset] [(.int (1:Int32))])) _
    refine st1 _ ?_
    show Steps p.tables e below (T1.setTop (mkF m 3 #[.val (.int p0), .val (.int p1), .val (.int p2), .val (.int p3), .val (.int p4), .unset, .unset, .unset, .unset, .unset, .unset, .unset, .unset, .unset, .unset, .unset, .unset, .unset, .unset, .unset] [(.ref b1)])) _
    refine XS.astore X1.here hx rfl (hb hby at_3) rfl rfl (l' := #[.val (.int p0), .val (.int p1), .val (.int p2), .val (.int p3), .val (.int p4), .val (.ref b1), .unset, .unset, .unset, .unset, .unset, .unset, .unset, .unset, .unset, .unset, .unset, .unset, .unset, .unset]) rfl ?_
    refine XS.iconst X1.here hx rfl (hb hby at_5) ?_
    show Steps p.tables e below (T1.setTop (mkF m 6 #[.val (.int p0), .val (.int p1), .val (.int p2), .val (.int p3), .val (.int p4), .val (.ref b1), .unset, .unset, .unset, .unset, .unset, .unset, .unset, .unset, .unset, .unset, .unset, .unset, .unset, .unset] [(.int (2:Int32))])) _
    refine st4 _ ?_
    show Steps p.tables e below (T4.setTop (mkF m 8 #[.val (.int p0), .val (.int p1), .val (.int p2), .val (.int p3), .val (.int p4), .val (.ref b1), .unset, .unset, .unset, .unset, .unset, .unset, .unset, .unset, .unset, .unset, .unset, .unset, .unset, .unset] [(.ref b4)])) _
    refine XS.astore X4.here hx rfl (hb hby at_8) rfl rfl (l' := #[.val (.int p0), .val (.int p1), .val (.int p2), .val (.int p3), .val (.int p4), .val (.ref b1), .val (.ref b4), .unset, .unset, .unset, .unset, .unset, .unset, .unset, .unset, .unset, .unset, .unset, .unset, .unset]) rfl ?_
    refine XS.iconst X4.here hx rfl (hb hby at_10) ?_
    show Steps p.tables e below (T4.setTop (mkF m 11 #[.val (.int p0), .val (.int p1), .val (.int p2), .val (.int p3), .val (.int p4), .val (.ref b1), .val (.ref b4), .unset, .unset, .unset, .unset, .unset, .unset, .unset, .unset, .unset, .unset, .unset, .unset, .unset] [(.int (3:Int32))])) _
    refine st8 _ ?_
    show Steps p.tables e below (T8.setTop (mkF m 13 #[.val (.int p0), .val (.int p1), .val (.int p2), .val (.int p3), .val (.int p4), .val (.ref b1), .val (.ref b4), .unset, .unset, .unset, .unset, .unset, .unset, .unset, .unset, .unset, .unset, .unset, .unset, .unset] [(.ref b8)])) _
    refine XS.astore X8.here hx rfl (hb hby at_13) rfl rfl (l' := #[.val (.int p0), .val (.int p1), .val (.int p2), .val (.int p3), .val (.int p4), .val (.ref b1), .val (.ref b4), .val (.ref b8), .unset, .unset, .unset, .unset, .unset, .unset, .unset, .unset, .unset, .unset, .unset, .unset]) rfl ?_
    refine XS.iconst X8.here hx rfl (hb hby at_15) ?_
    show Steps p.tables e below (T8.setTop (mkF m 16 #[.val (.int p0), .val (.int p1), .val (.int p2), .val (.int p3), .val (.int p4), .val (.ref b1), .val (.ref b4), .val (.ref b8), .unset, .unset, .unset, .unset, .unset, .unset, .unset, .unset, .unset, .unset, .unset, .unset] [(.int (4:Int32))])) _
    refine st13 _ ?_
    show Steps p.tables e below (T13.setTop (mkF m 18 #[.val (.int p0), .val (.int p1), .val (.int p2), .val (.int p3), .val (.int p4), .val (.ref b1), .val (.ref b4), .val (.ref b8), .unset, .unset, .unset, .unset, .unset, .unset, .unset, .unset, .unset, .unset, .unset, .unset] [(.ref b13)])) _
    refine XS.astore X13.here hx rfl (hb hby at_18) rfl rfl (l' := #[.val (.int p0), .val (.int p1), .val (.int p2), .val (.int p3), .val (.int p4), .val (.ref b1), .val (.ref b4), .val (.ref b8), .val (.ref b13), .unset, .unset, .unset, .unset, .unset, .unset, .unset, .unset, .unset, .unset, .unset]) rfl ?_
    refine XS.iloadN X13.here hx rfl (hb hby at_20) rfl ?_
    show Steps p.tables e below (T13.setTop (mkF m 21 #[.val (.int p0), .val (.int p1), .val (.int p2), .val (.int p3), .val (.int p4), .val (.ref b1), .val (.ref b4), .val (.ref b8), .val (.ref b13), .unset, .unset, .unset, .unset, .unset, .unset, .unset, .unset, .unset, .unset, .unset] [(.int p0)])) _
    refine X13.ldcInt hx hown (mvT hZ (hw _ (oG (i := 1) rfl))) (g := (mkF m 21 #[.val (.int p0), .val (.int p1), .val (.int p2), .val (.int p3), .val (.int p4), .val (.ref b1), .val (.ref b4), .val (.ref b8), .val (.ref b13), .unset, .unset, .unset, .unset, .unset, .unset, .unset, .unset, .unset, .unset, .unset] [(.int p0)])) rfl (hb hby at_21) _ ?_
    show Steps p.tables e below (T13.setTop (mkF m 23 #[.val (.int p0), .val (.int p1), .val (.int p2), .val (.int p3), .val (.int p4), .val (.ref b1), .val (.ref b4), .val (.ref b8), .val (.ref b13), .unset, .unset, .unset, .unset, .unset, .unset, .unset, .unset, .unset, .unset, .unset] [(.int (2147483647:Int32)), (.int p0)])) _
    refine XS.iand X13.here hx rfl (hb hby at_23) rfl ?_
    refine XS.iconst X13.here hx rfl (hb hby at_24) ?_
    refine XS.irem X13.here hx rfl (hb hby at_25) rfl (by decide) ?_
    exact k)
  obtain ⟨nn, hnn⟩ : ∃ z : Int32, z = (own_irem (p0 &&& (2147483647:Int32)) (4:Int32)) := ⟨_, rfl⟩
  rw [← hnn] at pre14
  have pre15 : ∀ t, Steps p.tables e below (T13.setTop (mkF m 31 #[.val (.int p0), .val (.int p1), .val (.int p2), .val (.int p3), .val (.int p4), .val (.ref b1), .val (.ref b4), .val (.ref b8), .val (.ref b13), .val (.int nn), .unset, .unset, .unset, .unset, .unset, .unset, .unset, .unset, .unset, .unset] [(.int (p1 &&& (3:Int32)))])) t → Steps p.tables e below (s₁.setTop (entryFrame m #[(.int p0), (.int p1), (.int p2), (.int p3), (.int p4)] maxLocals)) t := fun t k => pre14 t (by
    show Steps p.tables e below (T13.setTop (mkF m 26 #[.val (.int p0), .val (.int p1), .val (.int p2), .val (.int p3), .val (.int p4), .val (.ref b1), .val (.ref b4), .val (.ref b8), .val (.ref b13), .unset, .unset, .unset, .unset, .unset, .unset, .unset, .unset, .unset, .unset, .unset] [(.int nn)])) _
    refine XS.istore X13.here hx rfl (hb hby at_26) rfl (l' := #[.val (.int p0), .val (.int p1), .val (.int p2), .val (.int p3), .val (.int p4), .val (.ref b1), .val (.ref b4), .val (.ref b8), .val (.ref b13), .val (.int nn), .unset, .unset, .unset, .unset, .unset, .unset, .unset, .unset, .unset, .unset]) rfl ?_
    refine XS.iloadN X13.here hx rfl (hb hby at_28) rfl ?_
    refine XS.iconst X13.here hx rfl (hb hby at_29) ?_
    refine XS.iand X13.here hx rfl (hb hby at_30) rfl ?_
    exact k)
  obtain ⟨l0, hl0⟩ : ∃ z : Int32, z = (p1 &&& (3:Int32)) := ⟨_, rfl⟩
  rw [← hl0] at pre15
  have pre16 : ∀ t, Steps p.tables e below (T13.setTop (mkF m 36 #[.val (.int p0), .val (.int p1), .val (.int p2), .val (.int p3), .val (.int p4), .val (.ref b1), .val (.ref b4), .val (.ref b8), .val (.ref b13), .val (.int nn), .val (.int l0), .unset, .unset, .unset, .unset, .unset, .unset, .unset, .unset, .unset] [(.int (p2 &&& (3:Int32)))])) t → Steps p.tables e below (s₁.setTop (entryFrame m #[(.int p0), (.int p1), (.int p2), (.int p3), (.int p4)] maxLocals)) t := fun t k => pre15 t (by
    show Steps p.tables e below (T13.setTop (mkF m 31 #[.val (.int p0), .val (.int p1), .val (.int p2), .val (.int p3), .val (.int p4), .val (.ref b1), .val (.ref b4), .val (.ref b8), .val (.ref b13), .val (.int nn), .unset, .unset, .unset, .unset, .unset, .unset, .unset, .unset, .unset, .unset] [(.int l0)])) _
    refine XS.istore X13.here hx rfl (hb hby at_31) rfl (l' := #[.val (.int p0), .val (.int p1), .val (.int p2), .val (.int p3), .val (.int p4), .val (.ref b1), .val (.ref b4), .val (.ref b8), .val (.ref b13), .val (.int nn), .val (.int l0), .unset, .unset, .unset, .unset, .unset, .unset, .unset, .unset, .unset]) rfl ?_
    refine XS.iloadN X13.here hx rfl (hb hby at_33) rfl ?_
    refine XS.iconst X13.here hx rfl (hb hby at_34) ?_
    refine XS.iand X13.here hx rfl (hb hby at_35) rfl ?_
    exact k)
  obtain ⟨l1, hl1⟩ : ∃ z : Int32, z = (p2 &&& (3:Int32)) := ⟨_, rfl⟩
  rw [← hl1] at pre16
  have pre17 : ∀ t, Steps p.tables e below (T13.setTop (mkF m 41 #[.val (.int p0), .val (.int p1), .val (.int p2), .val (.int p3), .val (.int p4), .val (.ref b1), .val (.ref b4), .val (.ref b8), .val (.ref b13), .val (.int nn), .val (.int l0), .val (.int l1), .unset, .unset, .unset, .unset, .unset, .unset, .unset, .unset] [(.int (p3 &&& (3:Int32)))])) t → Steps p.tables e below (s₁.setTop (entryFrame m #[(.int p0), (.int p1), (.int p2), (.int p3), (.int p4)] maxLocals)) t := fun t k => pre16 t (by
    show Steps p.tables e below (T13.setTop (mkF m 36 #[.val (.int p0), .val (.int p1), .val (.int p2), .val (.int p3), .val (.int p4), .val (.ref b1), .val (.ref b4), .val (.ref b8), .val (.ref b13), .val (.int nn), .val (.int l0), .unset, .unset, .unset, .unset, .unset, .unset, .unset, .unset, .unset] [(.int l1)])) _
    refine XS.istore X13.here hx rfl (hb hby at_36) rfl (l' := #[.val (.int p0), .val (.int p1), .val (.int p2), .val (.int p3), .val (.int p4), .val (.ref b1), .val (.ref b4), .val (.ref b8), .val (.ref b13), .val (.int nn), .val (.int l0), .val (.int l1), .unset, .unset, .unset, .unset, .unset, .unset, .unset, .unset]) rfl ?_
    refine XS.iloadN X13.here hx rfl (hb hby at_38) rfl ?_
    refine XS.iconst X13.here hx rfl (hb hby at_39) ?_
    refine XS.iand X13.here hx rfl (hb hby at_40) rfl ?_
    exact k)
  obtain ⟨l2, hl2⟩ : ∃ z : Int32, z = (p3 &&& (3:Int32)) := ⟨_, rfl⟩
  rw [← hl2] at pre17
  have pre18 : ∀ t, Steps p.tables e below (T13.setTop (mkF m 53 #[.val (.int p0), .val (.int p1), .val (.int p2), .val (.int p3), .val (.int p4), .val (.ref b1), .val (.ref b4), .val (.ref b8), .val (.ref b13), .val (.int nn), .val (.int l0), .val (.int l1), .val (.int l2), .unset, .unset, .unset, .unset, .unset, .unset, .unset] [(.int (own_irem (p4 &&& (2147483647:Int32)) (nn + (1:Int32))))])) t → Steps p.tables e below (s₁.setTop (entryFrame m #[(.int p0), (.int p1), (.int p2), (.int p3), (.int p4)] maxLocals)) t := fun t k => pre17 t (by
    show Steps p.tables e below (T13.setTop (mkF m 41 #[.val (.int p0), .val (.int p1), .val (.int p2), .val (.int p3), .val (.int p4), .val (.ref b1), .val (.ref b4), .val (.ref b8), .val (.ref b13), .val (.int nn), .val (.int l0), .val (.int l1), .unset, .unset, .unset, .unset, .unset, .unset, .unset, .unset] [(.int l2)])) _
    refine XS.istore X13.here hx rfl (hb hby at_41) rfl (l' := #[.val (.int p0), .val (.int p1), .val (.int p2), .val (.int p3), .val (.int p4), .val (.ref b1), .val (.ref b4), .val (.ref b8), .val (.ref b13), .val (.int nn), .val (.int l0), .val (.int l1), .val (.int l2), .unset, .unset, .unset, .unset, .unset, .unset, .unset]) rfl ?_
    refine XS.iload X13.here hx rfl (hb hby at_43) rfl ?_
    show Steps p.tables e below (T13.setTop (mkF m 45 #[.val (.int p0), .val (.int p1), .val (.int p2), .val (.int p3), .val (.int p4), .val (.ref b1), .val (.ref b4), .val (.ref b8), .val (.ref b13), .val (.int nn), .val (.int l0), .val (.int l1), .val (.int l2), .unset, .unset, .unset, .unset, .unset, .unset, .unset] [(.int p4)])) _
    refine X13.ldcInt hx hown (mvT hZ (hw _ (oG (i := 1) rfl))) (g := (mkF m 45 #[.val (.int p0), .val (.int p1), .val (.int p2), .val (.int p3), .val (.int p4), .val (.ref b1), .val (.ref b4), .val (.ref b8), .val (.ref b13), .val (.int nn), .val (.int l0), .val (.int l1), .val (.int l2), .unset, .unset, .unset, .unset, .unset, .unset, .unset] [(.int p4)])) rfl (hb hby at_45) _ ?_
    show Steps p.tables e below (T13.setTop (mkF m 47 #[.val (.int p0), .val (.int p1), .val (.int p2), .val (.int p3), .val (.int p4), .val (.ref b1), .val (.ref b4), .val (.ref b8), .val (.ref b13), .val (.int nn), .val (.int l0), .val (.int l1), .val (.int l2), .unset, .unset, .unset, .unset, .unset, .unset, .unset] [(.int (2147483647:Int32)), (.int p4)])) _
    refine XS.iand X13.here hx rfl (hb hby at_47) rfl ?_
    refine XS.iload X13.here hx rfl (hb hby at_48) rfl ?_
    refine XS.iconst X13.here hx rfl (hb hby at_50) ?_
    refine XS.iadd X13.here hx rfl (hb hby at_51) rfl ?_
    refine XS.irem X13.here hx rfl (hb hby at_52) rfl (own_rnz hnn) ?_
    exact k)
  obtain ⟨rr, hrr⟩ : ∃ z : Int32, z = (own_irem (p4 &&& (2147483647:Int32)) (nn + (1:Int32))) := ⟨_, rfl⟩
  rw [← hrr] at pre18
  have Kk_19 : Keep h0 h13 [] := (Kk_9.ext E13)
  have Zz_20 : n0 ≤ h13.size := (Nat.le_trans Zz_10 E13.1)
  have Va_21 : Arv Z h13 b1 k1 .int (1:Int32) [(.int (0:Int32))] (.int (0:Int32)) := (Va_11.ext E13)
  have Va_22 : Arv Z h13 b4 k4 .int (2:Int32) [(.int (0:Int32)), (.int (0:Int32))] (.int (0:Int32)) := (Va_12.ext E13)
  have Va_23 : Arv Z h13 b8 k8 .int (3:Int32) [(.int (0:Int32)), (.int (0:Int32)), (.int (0:Int32))] (.int (0:Int32)) := (V_b8.ext E13)
  obtain ⟨T24, h24, X24, e24, E24, A24, D24, -, st24⟩ := newO X13 hx hZ hown (hw _ (oG (i := 2) rfl)) (hw _ (oG (i := 3) rfl)) (hw _ (oG (i := 4) rfl)) e13 (g := (mkF m 55 #[.val (.int p0), .val (.int p1), .val (.int p2), .val (.int p3), .val (.int p4), .val (.ref b1), .val (.ref b4), .val (.ref b8), .val (.ref b13), .val (.int nn), .val (.int l0), .val (.int l1), .val (.int l2), .val (.int rr), .unset, .unset, .unset, .unset, .unset, .unset] [])) rfl (hb hby at_55) (by decide) (by decide)
  obtain ⟨b24, g24⟩ : ∃ z, z = h13.size := ⟨_, rfl⟩
  rw [← g24] at A24 D24 st24
  have g_b24 : n0 ≤ b24 := Nat.le_trans Zz_20 (Nat.le_of_eq g24.symm)
  have sz_b24 : h0.size ≤ b24 := Nat.le_trans Kk_19.1 (Nat.le_of_eq g24.symm)
  have lt_b1_b24 : b1 < b24 := Nat.lt_of_lt_of_le Va_21.lt (Nat.le_of_eq g24.symm)
  have lt_b13_b24 : b13 < b24 := Nat.lt_of_lt_of_le V_b13.lt (Nat.le_of_eq g24.symm)
  have lt_b4_b24 : b4 < b24 := Nat.lt_of_lt_of_le Va_22.lt (Nat.le_of_eq g24.symm)
  have lt_b8_b24 : b8 < b24 := Nat.lt_of_lt_of_le Va_23.lt (Nat.le_of_eq g24.symm)
  have F_buffer_b24 : Fld Z h24 b24 "com/example/tavola/tavola/profile/CsvReader" "buffer" "[B" .null := D24 (Or.inr (hw _ (oG (i := 14) rfl))) (ty := (.array .byte)) (by decide)
  have F_currentLine_b24 : Fld Z h24 b24 "com/example/tavola/tavola/profile/CsvReader" "currentLine" "J" (.long (0:Int64)) := D24 (Or.inl (hw _ (oG (i := 16) rfl))) (ty := .long) (by decide)
  have F_record_b24 : Fld Z h24 b24 "com/example/tavola/tavola/profile/CsvReader" "record" "[B" .null := D24 (Or.inl (hw _ (oG (i := 18) rfl))) (ty := (.array .byte)) (by decide)
  have F_ends_b24 : Fld Z h24 b24 "com/example/tavola/tavola/profile/CsvReader" "ends" "[I" .null := D24 (Or.inl (hw _ (oG (i := 20) rfl))) (ty := (.array .int)) (by decide)
  have F_quoted_b24 : Fld Z h24 b24 "com/example/tavola/tavola/profile/CsvReader" "quoted" "[Z" .null := D24 (Or.inl (hw _ (oG (i := 23) rfl))) (ty := (.array .boolean)) (by decide)
  have F_in_b24 : Fld Z h24 b24 "com/example/tavola/tavola/profile/CsvReader" "in" "Ljava/io/InputStream;" .null := D24 (Or.inr (hw _ (oG (i := 25) rfl))) (ty := (.object "java/io/InputStream")) (by decide)
  have Va_26 : Arv Z h24 b1 k1 .int (1:Int32) [(.int (0:Int32))] (.int (0:Int32)) := (Va_21.ext E24)
  have Va_27 : Arv Z h24 b13 k13 .int (4:Int32) [(.int (0:Int32)), (.int (0:Int32)), (.int (0:Int32)), (.int (0:Int32))] (.int (0:Int32)) := (V_b13.ext E24)
  have Va_28 : Arv Z h24 b4 k4 .int (2:Int32) [(.int (0:Int32)), (.int (0:Int32))] (.int (0:Int32)) := (Va_22.ext E24)
  have Va_29 : Arv Z h24 b8 k8 .int (3:Int32) [(.int (0:Int32)), (.int (0:Int32)), (.int (0:Int32))] (.int (0:Int32)) := (Va_23.ext E24)
  have Kk_30 : Keep h0 h24 [] := (Kk_19.ext E24)
  have Zz_31 : n0 ≤ h24.size := (Nat.le_trans Zz_20 E24.1)
  obtain ⟨_, _, ⟨T25, L25, k25, n25⟩, -, X25, ⟨Lc25, hQ25, l25, y25, z25⟩, st25⟩ := X24.specialBack hx (y := (⟨"com/example/tavola/tavola/profile/CsvReader", "<init>", "(Ljava/io/InputStream;)V"⟩ : MethodName)) rfl hown (mvT hZ (hw _ (oG (i := 5) rfl))) (mvT hZ (hw _ (oG (i := 6) rfl))) (mvT hZ (hw _ (oG (i := 7) rfl))) (by decide) (backOf (W := 1) (rm1 l Z aw hw [] b24 h24 n0 Zz_31 A24 F_buffer_b24 F_currentLine_b24 F_record_b24 F_ends_b24 F_quoted_b24 F_in_b24 g_b24) hZ (hw _ (oG (i := 7) rfl)) (hw _ (oG (i := 4) rfl)) (by decide) (by decide)) (g := (mkF m 60 #[.val (.int p0), .val (.int p1), .val (.int p2), .val (.int p3), .val (.int p4), .val (.ref b1), .val (.ref b4), .val (.ref b8), .val (.ref b13), .val (.int nn), .val (.int l0), .val (.int l1), .val (.int l2), .val (.int rr), .unset, .unset, .unset, .unset, .unset, .unset] [.null, (.ref b24), (.ref b24)])) rfl (by rw [hml]; rfl) (Steps.refl _) (a := b24) (argsL := [.null]) (rest := [(.ref b24)]) (lenOf pd_rm0_0 rfl) rfl (by show 2 * 0 + _ ≤ _; exact Nat.le_of_eq rfl) (hb hby at_60) (fun _ _ => ⟨rfl, e24, (by decide : 5 + 4 ≤ _), (by decide : 23 + 65824 ≤ _)⟩)
  dsimp only [Pt.U, Pt.locs, Pt.cells, Pt.slots] at X25 l25 y25 z25 st25 hQ25
  subst l25 y25 z25
  obtain ⟨rfl, N25q, K25q, br, bn, kr, kn, zbr, lt_br_bn, Fr25, Fn25, Ar25, Vn25⟩ := hQ25
  have N25 := Fr.app N0 N25q
  have lt_b1_br : b1 < br := Nat.lt_of_lt_of_le Va_26.lt zbr
  have lt_b13_br : b13 < br := Nat.lt_of_lt_of_le Va_27.lt zbr
  have lt_b24_br : b24 < br := Nat.lt_of_lt_of_le A24.lt zbr
  have lt_b4_br : b4 < br := Nat.lt_of_lt_of_le Va_28.lt zbr
  have lt_b8_br : b8 < br := Nat.lt_of_lt_of_le Va_29.lt zbr
  have Vn0 := Vn25.pad (vs' := []) own_pad16
  have g_br : n0 ≤ br := by have := Zz_31; omega
  have sz_br : h0.size ≤ br := by have := Kk_30.1; omega
  have g_bn : n0 ≤ bn := by have := Zz_31; omega
  have sz_bn : h0.size ≤ bn := by have := Kk_30.1; omega
  have Kk_32 : Keep h0 T25.heap [] := (Kk_30.trans K25q (allS (Or.inr sz_b24) all0))
  have Zz_33 : n0 ≤ T25.heap.size := (Nat.le_trans Zz_31 K25q.1)
  have Va_34 : Arv Z T25.heap b1 k1 .int (1:Int32) [(.int (0:Int32))] (.int (0:Int32)) := (Va_26.keep K25q (ninS (Nat.ne_of_lt lt_b1_b24) nin0))
  have Va_35 : Arv Z T25.heap b13 k13 .int (4:Int32) [(.int (0:Int32)), (.int (0:Int32)), (.int (0:Int32)), (.int (0:Int32))] (.int (0:Int32)) := (Va_27.keep K25q (ninS (Nat.ne_of_lt lt_b13_b24) nin0))
  have Ee_36 : Exa Z T25.heap b24 "com/example/tavola/tavola/profile/CsvReader" := (A24.keep K25q)
  have Va_37 : Arv Z T25.heap b4 k4 .int (2:Int32) [(.int (0:Int32)), (.int (0:Int32))] (.int (0:Int32)) := (Va_28.keep K25q (ninS (Nat.ne_of_lt lt_b4_b24) nin0))
  have Va_38 : Arv Z T25.heap b8 k8 .int (3:Int32) [(.int (0:Int32)), (.int (0:Int32)), (.int (0:Int32))] (.int (0:Int32)) := (Va_29.keep K25q (ninS (Nat.ne_of_lt lt_b8_b24) nin0))
  obtain ⟨T39, h39, X39, e39, E39, A39, D39, -, st39⟩ := newO X25 hx hZ hown (hw _ (oG (i := 26) rfl)) (hw _ (oG (i := 27) rfl)) (hw _ (oG (i := 28) rfl)) rfl (g := (mkF m 65 #[.val (.int p0), .val (.int p1), .val (.int p2), .val (.int p3), .val (.int p4), .val (.ref b1), .val (.ref b4), .val (.ref b8), .val (.ref b13), .val (.int nn), .val (.int l0), .val (.int l1), .val (.int l2), .val (.int rr), .val (.ref b24), .unset, .unset, .unset, .unset, .unset] [])) rfl (hb hby at_65) (by decide) (by decide)
  obtain ⟨b39, g39⟩ : ∃ z, z = T25.heap.size := ⟨_, rfl⟩
  rw [← g39] at A39 D39 st39
  have g_b39 : n0 ≤ b39 := Nat.le_trans Zz_33 (Nat.le_of_eq g39.symm)
  have sz_b39 : h0.size ≤ b39 := Nat.le_trans Kk_32.1 (Nat.le_of_eq g39.symm)
  have lt_b1_b39 : b1 < b39 := Nat.lt_of_lt_of_le Va_34.lt (Nat.le_of_eq g39.symm)
  have lt_b13_b39 : b13 < b39 := Nat.lt_of_lt_of_le Va_35.lt (Nat.le_of_eq g39.symm)
  have lt_b24_b39 : b24 < b39 := Nat.lt_of_lt_of_le Ee_36.lt (Nat.le_of_eq g39.symm)
  have lt_b4_b39 : b4 < b39 := Nat.lt_of_lt_of_le Va_37.lt (Nat.le_of_eq g39.symm)
  have lt_b8_b39 : b8 < b39 := Nat.lt_of_lt_of_le Va_38.lt (Nat.le_of_eq g39.symm)
  have lt_bn_b39 : bn < b39 := Nat.lt_of_lt_of_le Vn0.lt (Nat.le_of_eq g39.symm)
  have lt_br_b39 : br < b39 := Nat.lt_of_lt_of_le (own_arfL Ar25) (Nat.le_of_eq g39.symm)
  have F_keys_b39 : Fld Z h39 b39 "com/example/tavola/tavola/profile/RowBatch" "keys" "[B" .null := D39 (Or.inl (hw _ (oG (i := 35) rfl))) (ty := (.array .byte)) (by decide)
  have F_keyEnds_b39 : Fld Z h39 b39 "com/example/tavola/tavola/profile/RowBatch" "keyEnds" "[I" .null := D39 (Or.inr (hw _ (oG (i := 37) rfl))) (ty := (.array .int)) (by decide)
  have F_hashes_b39 : Fld Z h39 b39 "com/example/tavola/tavola/profile/RowBatch" "hashes" "[I" .null := D39 (Or.inr (hw _ (oG (i := 39) rfl))) (ty := (.array .int)) (by decide)
  have F_keyBytes_b39 : Fld Z h39 b39 "com/example/tavola/tavola/profile/RowBatch" "keyBytes" "[J" .null := D39 (Or.inr (hw _ (oG (i := 42) rfl))) (ty := (.array .long)) (by decide)
  have F_rowBytes_b39 : Fld Z h39 b39 "com/example/tavola/tavola/profile/RowBatch" "rowBytes" "[J" .null := D39 (Or.inr (hw _ (oG (i := 44) rfl))) (ty := (.array .long)) (by decide)
  have F_regularValues_b39 : Fld Z h39 b39 "com/example/tavola/tavola/profile/RowBatch" "regularValues" "[J" .null := D39 (Or.inr (hw _ (oG (i := 46) rfl))) (ty := (.array .long)) (by decide)
  have F_staticColumns_b39 : Fld Z h39 b39 "com/example/tavola/tavola/profile/RowBatch" "staticColumns" "I" (.int (0:Int32)) := D39 (Or.inr (hw _ (oG (i := 48) rfl))) (ty := .int) (by decide)
  have F_statics_b39 : Fld Z h39 b39 "com/example/tavola/tavola/profile/RowBatch" "statics" "[I" .null := D39 (Or.inr (hw _ (oG (i := 50) rfl))) (ty := (.array .int)) (by decide)
  have F_keysLength_b39 : Fld Z h39 b39 "com/example/tavola/tavola/profile/RowBatch" "keysLength" "I" (.int (0:Int32)) := D39 (Or.inl (hw _ (oG (i := 75) rfl))) (ty := .int) (by decide)
  have F_count_b39 : Fld Z h39 b39 "com/example/tavola/tavola/profile/RowBatch" "count" "I" (.int (0:Int32)) := D39 (Or.inl (hw _ (oG (i := 86) rfl))) (ty := .int) (by decide)
  have pre40 : ∀ t, Steps p.tables e below (T39.setTop (mkF m 74 #[.val (.int p0), .val (.int p1), .val (.int p2), .val (.int p3), .val (.int p4), .val (.ref b1), .val (.ref b4), .val (.ref b8), .val (.ref b13), .val (.int nn), .val (.int l0), .val (.int l1), .val (.int l2), .val (.int rr), .val (.ref b24), .unset, .unset, .unset, .unset, .unset] [(.int (((p0.toUInt32 >>> ((4:Int32) &&& 31).toUInt32).toInt32) &&& (3:Int32))), (.ref b39), (.ref b39)])) t → Steps p.tables e below (s₁.setTop (entryFrame m #[(.int p0), (.int p1), (.int p2), (.int p3), (.int p4)] maxLocals)) t := fun t k => pre18 t (by
    show Steps p.tables e below (T13.setTop (mkF m 53 #[.val (.int p0), .val (.int p1), .val (.int p2), .val (.int p3), .val (.int p4), .val (.ref b1), .val (.ref b4), .val (.ref b8), .val (.ref b13), .val (.int nn), .val (.int l0), .val (.int l1), .val (.int l2), .unset, .unset, .unset, .unset, .unset, .unset, .unset] [(.int rr)])) _
    refine XS.istore X13.here hx rfl (hb hby at_53) rfl (l' := #[.val (.int p0), .val (.int p1), .val (.int p2), .val (.int p3), .val (.int p4), .val (.ref b1), .val (.ref b4), .val (.ref b8), .val (.ref b13), .val (.int nn), .val (.int l0), .val (.int l1), .val (.int l2), .val (.int rr), .unset, .unset, .unset, .unset, .unset, .unset]) rfl ?_
    show Steps p.tables e below (T13.setTop (mkF m 55 #[.val (.int p0), .val (.int p1), .val (.int p2), .val (.int p3), .val (.int p4), .val (.ref b1), .val (.ref b4), .val (.ref b8), .val (.ref b13), .val (.int nn), .val (.int l0), .val (.int l1), .val (.int l2), .val (.int rr), .unset, .unset, .unset, .unset, .unset, .unset] [])) _
    refine st24 _ ?_
    show Steps p.tables e below (T24.setTop (mkF m 58 #[.val (.int p0), .val (.int p1), .val (.int p2), .val (.int p3), .val (.int p4), .val (.ref b1), .val (.ref b4), .val (.ref b8), .val (.ref b13), .val (.int nn), .val (.int l0), .val (.int l1), .val (.int l2), .val (.int rr), .unset, .unset, .unset, .unset, .unset, .unset] [(.ref b24)])) _
    refine XS.dup X24.here hx rfl (hb hby at_58) rfl rfl ?_
    refine XS.aconstNull X24.here hx rfl (hb hby at_59) ?_
    show Steps p.tables e below (T24.setTop (mkF m 60 #[.val (.int p0), .val (.int p1), .val (.int p2), .val (.int p3), .val (.int p4), .val (.ref b1), .val (.ref b4), .val (.ref b8), .val (.ref b13), .val (.int nn), .val (.int l0), .val (.int l1), .val (.int l2), .val (.int rr), .unset, .unset, .unset, .unset, .unset, .unset] [.null, (.ref b24), (.ref b24)])) _
    refine st25.trans ?_
    show Steps p.tables e below (T25.setTop (mkF m 63 #[.val (.int p0), .val (.int p1), .val (.int p2), .val (.int p3), .val (.int p4), .val (.ref b1), .val (.ref b4), .val (.ref b8), .val (.ref b13), .val (.int nn), .val (.int l0), .val (.int l1), .val (.int l2), .val (.int rr), .unset, .unset, .unset, .unset, .unset, .unset] [(.ref b24)])) _
    refine XS.astore X25.here hx rfl (hb hby at_63) rfl rfl (l' := #[.val (.int p0), .val (.int p1), .val (.int p2), .val (.int p3), .val (.int p4), .val (.ref b1), .val (.ref b4), .val (.ref b8), .val (.ref b13), .val (.int nn), .val (.int l0), .val (.int l1), .val (.int l2), .val (.int rr), .val (.ref b24), .unset, .unset, .unset, .unset, .unset]) rfl ?_
    show Steps p.tables e below (T25.setTop (mkF m 65 #[.val (.int p0), .val (.int p1), .val (.int p2), .val (.int p3), .val (.int p4), .val (.ref b1), .val (.ref b4), .val (.ref b8), .val (.ref b13), .val (.int nn), .val (.int l0), .val (.int l1), .val (.int l2), .val (.int rr), .val (.ref b24), .unset, .unset, .unset, .unset, .unset] [])) _
    refine st39 _ ?_
    show Steps p.tables e below (T39.setTop (mkF m 68 #[.val (.int p0), .val (.int p1), .val (.int p2), .val (.int p3), .val (.int p4), .val (.ref b1), .val (.ref b4), .val (.ref b8), .val (.ref b13), .val (.int nn), .val (.int l0), .val (.int l1), .val (.int l2), .val (.int rr), .val (.ref b24), .unset, .unset, .unset, .unset, .unset] [(.ref b39)])) _
    refine XS.dup X39.here hx rfl (hb hby at_68) rfl rfl ?_
    refine XS.iloadN X39.here hx rfl (hb hby at_69) rfl ?_
    refine XS.iconst X39.here hx rfl (hb hby at_70) ?_
    refine XS.iushr X39.here hx rfl (hb hby at_71) rfl ?_
    refine XS.iconst X39.here hx rfl (hb hby at_72) ?_
    refine XS.iand X39.here hx rfl (hb hby at_73) rfl ?_
    exact k)
  obtain ⟨sc, hsc⟩ : ∃ z : Int32, z = (((p0.toUInt32 >>> ((4:Int32) &&& 31).toUInt32).toInt32) &&& (3:Int32)) := ⟨_, rfl⟩
  rw [← hsc] at pre40
  have hsc := own_l03 hsc
  have Va_42 : Arv Z h39 b1 k1 .int (1:Int32) [(.int (0:Int32))] (.int (0:Int32)) := (Va_34.ext E39)
  have Va_43 : Arv Z h39 b13 k13 .int (4:Int32) [(.int (0:Int32)), (.int (0:Int32)), (.int (0:Int32)), (.int (0:Int32))] (.int (0:Int32)) := (Va_35.ext E39)
  have Ee_44 : Exa Z h39 b24 "com/example/tavola/tavola/profile/CsvReader" := (Ee_36.ext E39)
  have Va_45 : Arv Z h39 b4 k4 .int (2:Int32) [(.int (0:Int32)), (.int (0:Int32))] (.int (0:Int32)) := (Va_37.ext E39)
  have Va_46 : Arv Z h39 b8 k8 .int (3:Int32) [(.int (0:Int32)), (.int (0:Int32)), (.int (0:Int32))] (.int (0:Int32)) := (Va_38.ext E39)
  have Va_47 : Arv Z h39 bn kn .int (16:Int32) [] (.int (0:Int32)) := (Vn0.ext E39)
  have Aa_48 : own_Arf Z h39 br kr .byte (256:Int32) (.int (0:Int32)) := (own_arfE Ar25 E39)
  have Kk_49 : Keep h0 h39 [] := (Kk_32.ext E39)
  have Zz_50 : n0 ≤ h39.size := (Nat.le_trans Zz_33 E39.1)
  obtain ⟨_, _, ⟨T41, L41, k41, n41⟩, -, X41, ⟨Lc41, hQ41, l41, y41, z41⟩, st41⟩ := X39.specialBack hx (y := (⟨"com/example/tavola/tavola/profile/RowBatch", "<init>", "(I)V"⟩ : MethodName)) rfl hown (mvT hZ (hw _ (oG (i := 29) rfl))) (mvT hZ (hw _ (oG (i := 30) rfl))) (mvT hZ (hw _ (oG (i := 31) rfl))) (by decide) (backOf (W := 1) (rm3 l Z aw hw [] b39 sc h39 n0 Zz_50 A39 F_keys_b39 F_keyEnds_b39 F_hashes_b39 F_keyBytes_b39 F_rowBytes_b39 F_regularValues_b39 F_statics_b39 F_staticColumns_b39 F_keysLength_b39 F_count_b39 g_b39 hsc) hZ (hw _ (oG (i := 31) rfl)) (hw _ (oG (i := 28) rfl)) (by decide) (by decide)) (g := (mkF m 74 #[.val (.int p0), .val (.int p1), .val (.int p2), .val (.int p3), .val (.int p4), .val (.ref b1), .val (.ref b4), .val (.ref b8), .val (.ref b13), .val (.int nn), .val (.int l0), .val (.int l1), .val (.int l2), .val (.int rr), .val (.ref b24), .unset, .unset, .unset, .unset, .unset] [(.int sc), (.ref b39), (.ref b39)])) rfl (by rw [hml]; rfl) (Steps.refl _) (a := b39) (argsL := [(.int sc)]) (rest := [(.ref b39)]) (lenOf pd_rm0_1 rfl) rfl (by show 2 * 0 + _ ≤ _; exact Nat.le_of_eq rfl) (hb hby at_74) (fun _ _ => ⟨rfl, e39, (by decide : 10 + 7 ≤ _), (by decide : 65857 + 73728 ≤ _)⟩)
  dsimp only [Pt.U, Pt.locs, Pt.cells, Pt.slots] at X41 l41 y41 z41 st41 hQ41
  subst l41 y41 z41
  obtain ⟨rfl, N41q, K41q, bk, be, bh, bf, bg, bx, bs, kk, ke, kh, kf, kg, kx, ks, zbk, lt_bk_be, lt_be_bh, lt_bh_bf, lt_bf_bg, lt_bg_bx, lt_bx_bs, Fi0_41, Fi1_41, Fi2_41, Fa0_41, Fa1_41, Fa2_41, Fa3_41, Fa4_41, Fa5_41, Fa6_41, Va0_41, Va1_41, Va2_41, Va3_41, Va4_41, Va5_41, Va6_41⟩ := hQ41
  have N41 := Fr.app N25 N41q
  have lt_b1_bk : b1 < bk := Nat.lt_of_lt_of_le Va_42.lt zbk
  have lt_b13_bk : b13 < bk := Nat.lt_of_lt_of_le Va_43.lt zbk
  have lt_b24_bk : b24 < bk := Nat.lt_of_lt_of_le Ee_44.lt zbk
  have lt_b39_bk : b39 < bk := Nat.lt_of_lt_of_le A39.lt zbk
  have lt_b4_bk : b4 < bk := Nat.lt_of_lt_of_le Va_45.lt zbk
  have lt_b8_bk : b8 < bk := Nat.lt_of_lt_of_le Va_46.lt zbk
  have lt_bn_bk : bn < bk := Nat.lt_of_lt_of_le Va_47.lt zbk
  have lt_br_bk : br < bk := Nat.lt_of_lt_of_le (own_arfL Aa_48) zbk
  have g_bk : n0 ≤ bk := by have := Zz_50; omega
  have sz_bk : h0.size ≤ bk := by have := Kk_49.1; omega
  have g_be : n0 ≤ be := by have := Zz_50; omega
  have sz_be : h0.size ≤ be := by have := Kk_49.1; omega
  have g_bh : n0 ≤ bh := by have := Zz_50; omega
  have sz_bh : h0.size ≤ bh := by have := Kk_49.1; omega
  have g_bf : n0 ≤ bf := by have := Zz_50; omega
  have sz_bf : h0.size ≤ bf := by have := Kk_49.1; omega
  have g_bg : n0 ≤ bg := by have := Zz_50; omega
  have sz_bg : h0.size ≤ bg := by have := Kk_49.1; omega
  have g_bx : n0 ≤ bx := by have := Zz_50; omega
  have sz_bx : h0.size ≤ bx := by have := Kk_49.1; omega
  have g_bs : n0 ≤ bs := by have := Zz_50; omega
  have sz_bs : h0.size ≤ bs := by have := Kk_49.1; omega
  have pre51 : ∀ t, Steps p.tables e below (T41.setTop (mkF m 79 #[.val (.int p0), .val (.int p1), .val (.int p2), .val (.int p3), .val (.int p4), .val (.ref b1), .val (.ref b4), .val (.ref b8), .val (.ref b13), .val (.int nn), .val (.int l0), .val (.int l1), .val (.int l2), .val (.int rr), .val (.ref b24), .val (.ref b39), .unset, .unset, .unset, .unset] [])) t → Steps p.tables e below (s₁.setTop (entryFrame m #[(.int p0), (.int p1), (.int p2), (.int p3), (.int p4)] maxLocals)) t := fun t k => pre40 t (by
    show Steps p.tables e below (T39.setTop (mkF m 74 #[.val (.int p0), .val (.int p1), .val (.int p2), .val (.int p3), .val (.int p4), .val (.ref b1), .val (.ref b4), .val (.ref b8), .val (.ref b13), .val (.int nn), .val (.int l0), .val (.int l1), .val (.int l2), .val (.int rr), .val (.ref b24), .unset, .unset, .unset, .unset, .unset] [(.int sc), (.ref b39), (.ref b39)])) _
    refine st41.trans ?_
    show Steps p.tables e below (T41.setTop (mkF m 77 #[.val (.int p0), .val (.int p1), .val (.int p2), .val (.int p3), .val (.int p4), .val (.ref b1), .val (.ref b4), .val (.ref b8), .val (.ref b13), .val (.int nn), .val (.int l0), .val (.int l1), .val (.int l2), .val (.int rr), .val (.ref b24), .unset, .unset, .unset, .unset, .unset] [(.ref b39)])) _
    refine XS.astore X41.here hx rfl (hb hby at_77) rfl rfl (l' := #[.val (.int p0), .val (.int p1), .val (.int p2), .val (.int p3), .val (.int p4), .val (.ref b1), .val (.ref b4), .val (.ref b8), .val (.ref b13), .val (.int nn), .val (.int l0), .val (.int l1), .val (.int l2), .val (.int rr), .val (.ref b24), .val (.ref b39), .unset, .unset, .unset, .unset]) rfl ?_
    exact k)
  rcases own_nn hnn with rfl | rfl | rfl | rfl
  · have pre52 : ∀ t, Steps p.tables e below (T41.setTop (mkF m 168 #[.val (.int p0), .val (.int p1), .val (.int p2), .val (.int p3), .val (.int p4), .val (.ref b1), .val (.ref b4), .val (.ref b8), .val (.ref b13), .val (.int (0:Int32)), .val (.int l0), .val (.int l1), .val (.int l2), .val (.int rr), .val (.ref b24), .val (.ref b39), .unset, .unset, .unset, .unset] [])) t → Steps p.tables e below (s₁.setTop (entryFrame m #[(.int p0), (.int p1), (.int p2), (.int p3), (.int p4)] maxLocals)) t := fun t k => pre51 t (by
      show Steps p.tables e below (T41.setTop (mkF m 79 #[.val (.int p0), .val (.int p1), .val (.int p2), .val (.int p3), .val (.int p4), .val (.ref b1), .val (.ref b4), .val (.ref b8), .val (.ref b13), .val (.int (0:Int32)), .val (.int l0), .val (.int l1), .val (.int l2), .val (.int rr), .val (.ref b24), .val (.ref b39), .unset, .unset, .unset, .unset] [])) _
      refine XS.iload X41.here hx rfl (hb hby at_79) rfl ?_
      refine XS.ifYes X41.here hx rfl (pc0 := 81) (pc' := 108) rfl (hb hby at_81) rfl ((if0 _ _).trans (flt ((by decide) : ¬ ((0:Int32) < (0:Int32)))).2.2.2) (by decide) (by decide) ?_
      refine XS.iload X41.here hx rfl (hb hby at_108) rfl ?_
      refine XS.iconst X41.here hx rfl (hb hby at_110) ?_
      refine XS.icmpYes X41.here hx rfl (pc0 := 111) (pc' := 138) rfl (hb hby at_111) rfl (flt ((by decide) : ¬ ((1:Int32) < (0:Int32)))).2.2.2 (by decide) (by decide) ?_
      refine XS.iload X41.here hx rfl (hb hby at_138) rfl ?_
      refine XS.iconst X41.here hx rfl (hb hby at_140) ?_
      refine XS.icmpYes X41.here hx rfl (pc0 := 141) (pc' := 168) rfl (hb hby at_141) rfl (flt ((by decide) : ¬ ((2:Int32) < (0:Int32)))).2.2.2 (by decide) (by decide) ?_
      exact k)
    rcases own_rr0 hrr with rfl
    · have Zz_54 : n0 ≤ T41.heap.size := (Nat.le_trans Zz_50 K41q.1)
      have Ee_55 : Exa Z T41.heap b39 "com/example/tavola/tavola/profile/RowBatch" := (A39.keep K41q)
      obtain ⟨cq53, kq53, q53a, q53b, q53c⟩ := isOf hZ rfl (Ee_55)
      obtain ⟨_, _, ⟨T53, L53, k53, n53⟩, -, X53, ⟨Lc53, hQ53, l53, y53, z53⟩, st53⟩ := X41.virtualBack hx (y := (⟨"com/example/tavola/tavola/profile/RowBatch", "keyStart", "(I)I"⟩ : MethodName)) (z := (⟨"com/example/tavola/tavola/profile/RowBatch", "keyStart", "(I)I"⟩ : MethodName)) hown (mvT hZ (hw _ (oG (i := 51) rfl))) (mvT hZ (hw _ (oG (i := 52) rfl))) (notFace_of_selects (args := #[]) (mvT hZ (hw _ (oG (i := 54) rfl)))) (mvT hZ (hw _ (oG (i := 54) rfl))) (mvT hZ (hw _ (oG (i := 53) rfl))) (by decide) (backOf (W := 0) (rm4_0 l Z aw hw [] b39 be ke (0:Int32) (0:Int32) (0:Int32) T41.heap n0 Zz_54 Fa1_41 Va1_41) hZ (hw _ (oG (i := 55) rfl)) (hw _ (oG (i := 28) rfl)) (by decide) (by decide)) q53a q53c (g := (mkF m 241 #[.val (.int p0), .val (.int p1), .val (.int p2), .val (.int p3), .val (.int p4), .val (.ref b1), .val (.ref b4), .val (.ref b8), .val (.ref b13), .val (.int (0:Int32)), .val (.int l0), .val (.int l1), .val (.int l2), .val (.int (0:Int32)), .val (.ref b24), .val (.ref b39), .val (.int (0:Int32)), .val (.int l0), .unset, .unset] [(.int (0:Int32)), (.ref b39)])) rfl (by rw [hml]; rfl) (Steps.refl _) (argsL := [(.int (0:Int32))]) (rest := []) (lenOf pd_rm0_2 rfl) rfl (by show 2 * 0 + _ ≤ _; exact Nat.le_of_eq rfl) (hb hby at_241) (fun _ _ => ⟨rfl, rfl, (by decide : 17 + 0 ≤ _), (by decide : 139585 + 0 ≤ _)⟩)
      dsimp only [Pt.U, Pt.locs, Pt.cells, Pt.slots] at X53 l53 y53 z53 st53 hQ53
      subst l53 y53 z53
      obtain ⟨rfl, N53q, e53q⟩ := hQ53
      have N53 := Fr.app N41 N53q
      obtain ⟨fs, hr, hrun, hended, hW, hsame⟩ := X53.leave (v := some (.int (1:Int32))) (fun h => by rw [Bd.returns] at h; cases h)
      refine ⟨_, _, pre52 _ ?_, hrun, hended, _, _, rfl, ?_, ⟨_, rfl⟩, hW, hsame.mono (by decide) (by decide)⟩
      · show Steps p.tables e below (T41.setTop (mkF m 168 #[.val (.int p0), .val (.int p1), .val (.int p2), .val (.int p3), .val (.int p4), .val (.ref b1), .val (.ref b4), .val (.ref b8), .val (.ref b13), .val (.int (0:Int32)), .val (.int l0), .val (.int l1), .val (.int l2), .val (.int (0:Int32)), .val (.ref b24), .val (.ref b39), .unset, .unset, .unset, .unset] [])) _
        refine XS.iload X41.here hx rfl (hb hby at_168) rfl ?_
        refine XS.ifNo X41.here hx rfl (hb hby at_170) rfl ((if0 _ _).trans (teq (rfl : (0:Int32) = (0:Int32))).2) ?_
        refine XS.iconst X41.here hx rfl (hb hby at_173) ?_
        refine XS.goto X41.here hx rfl (pc0 := 174) (pc' := 210) rfl (hb hby at_174) (by decide) (by decide) ?_
        refine XS.istore X41.here hx rfl (hb hby at_210) rfl (l' := #[.val (.int p0), .val (.int p1), .val (.int p2), .val (.int p3), .val (.int p4), .val (.ref b1), .val (.ref b4), .val (.ref b8), .val (.ref b13), .val (.int (0:Int32)), .val (.int l0), .val (.int l1), .val (.int l2), .val (.int (0:Int32)), .val (.ref b24), .val (.ref b39), .val (.int (0:Int32)), .unset, .unset, .unset]) rfl ?_
        refine XS.iload X41.here hx rfl (hb hby at_212) rfl ?_
        refine XS.ifNo X41.here hx rfl (hb hby at_214) rfl ((if0 _ _).trans (teq (rfl : (0:Int32) = (0:Int32))).2) ?_
        refine XS.iload X41.here hx rfl (hb hby at_217) rfl ?_
        refine XS.goto X41.here hx rfl (pc0 := 219) (pc' := 235) rfl (hb hby at_219) (by decide) (by decide) ?_
        refine XS.istore X41.here hx rfl (hb hby at_235) rfl (l' := #[.val (.int p0), .val (.int p1), .val (.int p2), .val (.int p3), .val (.int p4), .val (.ref b1), .val (.ref b4), .val (.ref b8), .val (.ref b13), .val (.int (0:Int32)), .val (.int l0), .val (.int l1), .val (.int l2), .val (.int (0:Int32)), .val (.ref b24), .val (.ref b39), .val (.int (0:Int32)), .val (.int l0), .unset, .unset]) rfl ?_
        refine XS.aload X41.here hx rfl (hb hby at_237) rfl rfl ?_
        refine XS.iload X41.here hx rfl (hb hby at_239) rfl ?_
        show Steps p.tables e below (T41.setTop (mkF m 241 #[.val (.int p0), .val (.int p1), .val (.int p2), .val (.int p3), .val (.int p4), .val (.ref b1), .val (.ref b4), .val (.ref b8), .val (.ref b13), .val (.int (0:Int32)), .val (.int l0), .val (.int l1), .val (.int l2), .val (.int (0:Int32)), .val (.ref b24), .val (.ref b39), .val (.int (0:Int32)), .val (.int l0), .unset, .unset] [(.int (0:Int32)), (.ref b39)])) _
        refine st53.trans ?_
        show Steps p.tables e below (T53.setTop (mkF m 244 #[.val (.int p0), .val (.int p1), .val (.int p2), .val (.int p3), .val (.int p4), .val (.ref b1), .val (.ref b4), .val (.ref b8), .val (.ref b13), .val (.int (0:Int32)), .val (.int l0), .val (.int l1), .val (.int l2), .val (.int (0:Int32)), .val (.ref b24), .val (.ref b39), .val (.int (0:Int32)), .val (.int l0), .unset, .unset] [(.int (0:Int32))])) _
        refine XS.istore X53.here hx rfl (hb hby at_244) rfl (l' := #[.val (.int p0), .val (.int p1), .val (.int p2), .val (.int p3), .val (.int p4), .val (.ref b1), .val (.ref b4), .val (.ref b8), .val (.ref b13), .val (.int (0:Int32)), .val (.int l0), .val (.int l1), .val (.int l2), .val (.int (0:Int32)), .val (.ref b24), .val (.ref b39), .val (.int (0:Int32)), .val (.int l0), .val (.int (0:Int32)), .unset]) rfl ?_
        refine XS.iload X53.here hx rfl (hb hby at_246) rfl ?_
        refine XS.iload X53.here hx rfl (hb hby at_248) rfl ?_
        refine XS.icmpNo X53.here hx rfl (hb hby at_250) rfl (teq ((by decide) : (0:Int32) = (0:Int32))).2 ?_
        refine XS.iconst X53.here hx rfl (hb hby at_253) ?_
        refine XS.goto X53.here hx rfl (pc0 := 254) (pc' := 258) rfl (hb hby at_254) (by decide) (by decide) ?_
        refine XS.istore X53.here hx rfl (hb hby at_258) rfl (l' := #[.val (.int p0), .val (.int p1), .val (.int p2), .val (.int p3), .val (.int p4), .val (.ref b1), .val (.ref b4), .val (.ref b8), .val (.ref b13), .val (.int (0:Int32)), .val (.int l0), .val (.int l1), .val (.int l2), .val (.int (0:Int32)), .val (.ref b24), .val (.ref b39), .val (.int (0:Int32)), .val (.int l0), .val (.int (0:Int32)), .val (.int (1:Int32))]) rfl ?_
        refine XS.iload X53.here hx rfl (hb hby at_260) rfl ?_
        refine XS.iload X53.here hx rfl (hb hby at_262) rfl ?_
        refine XS.icmpYes X53.here hx rfl (pc0 := 264) (pc' := 294) rfl (hb hby at_264) rfl (flt ((by decide) : ¬ ((0:Int32) < (0:Int32)))).2.1 (by decide) (by decide) ?_
        refine XS.iload X53.here hx rfl (hb hby at_294) rfl ?_
        show Steps p.tables e below (T53.setTop (mkF m 296 #[.val (.int p0), .val (.int p1), .val (.int p2), .val (.int p3), .val (.int p4), .val (.ref b1), .val (.ref b4), .val (.ref b8), .val (.ref b13), .val (.int (0:Int32)), .val (.int l0), .val (.int l1), .val (.int l2), .val (.int (0:Int32)), .val (.ref b24), .val (.ref b39), .val (.int (0:Int32)), .val (.int l0), .val (.int (0:Int32)), .val (.int (1:Int32))] [(.int (1:Int32))])) _
        exact retN X53 hx (t := .boolean) Bd.returns (by simp) (hb hby at_296) hr
      · show rm0Q Z p0 p1 p2 p3 p4 h0 n0 _ T53.heap _
        rw [e53q]
        exact ⟨rfl, N53⟩
  · have Zz_57 : n0 ≤ T41.heap.size := (Nat.le_trans Zz_50 K41q.1)
    obtain ⟨_, _, ⟨T56, L56, k56, n56⟩, -, X56, ⟨Lc56, hQ56, l56, y56, z56⟩, st56⟩ := Jvm.LawKit.callS X41 hx (y := (⟨"com/example/tavola/tavola/profile/RowBatchKeyStartPinLaw", "pick", "(I[I[I[I[I)[I"⟩ : MethodName)) hown (mvT hZ (hw _ (oG (i := 56) rfl))) (mvT hZ (hw _ (oG (i := 57) rfl))) (mvT hZ (hw _ (oG (i := 58) rfl))) (mvT hZ (hw _ (oG (i := 59) rfl))) (by decide) (backOf (W := 2) (rm5 l Z aw hw [] l0 b1 b4 b8 b13 T41.heap n0 Zz_57) hZ (hw _ (oG (i := 59) rfl)) (hw _ (oG (i := 58) rfl)) (by decide) (by decide)) (g := (mkF m 98 #[.val (.int p0), .val (.int p1), .val (.int p2), .val (.int p3), .val (.int p4), .val (.ref b1), .val (.ref b4), .val (.ref b8), .val (.ref b13), .val (.int (1:Int32)), .val (.int l0), .val (.int l1), .val (.int l2), .val (.int rr), .val (.ref b24), .val (.ref b39), .unset, .unset, .unset, .unset] [(.ref b13), (.ref b8), (.ref b4), (.ref b1), (.int l0), (.ref b24), (.ref b39)])) rfl (by rw [hml]; rfl) (argsL := [(.int l0), (.ref b1), (.ref b4), (.ref b8), (.ref b13)]) (rest := [(.ref b24), (.ref b39)]) (lenOf pd_rm0_3 rfl) rfl (by show 2 * 0 + _ ≤ _; exact Nat.le_of_eq rfl) (hb hby at_98) (fun _ _ => ⟨rfl, rfl, (by decide : 17 + 0 ≤ _), (by decide : 139585 + 0 ≤ _)⟩)
    dsimp only [Pt.U, Pt.locs, Pt.cells, Pt.slots] at X56 l56 y56 z56 st56 hQ56
    subst l56 y56 z56
    obtain ⟨rfl, N56q, e56q⟩ := hQ56
    have N56 := Fr.app N41 N56q
    have Va_58 : Arv Z T41.heap b1 k1 .int (1:Int32) [(.int (0:Int32))] (.int (0:Int32)) := (Va_42.keep K41q (ninS (Nat.ne_of_lt lt_b1_b39) nin0))
    have Va_59 : Arv Z T41.heap b4 k4 .int (2:Int32) [(.int (0:Int32)), (.int (0:Int32))] (.int (0:Int32)) := (Va_45.keep K41q (ninS (Nat.ne_of_lt lt_b4_b39) nin0))
    have Va_60 : Arv Z T41.heap b8 k8 .int (3:Int32) [(.int (0:Int32)), (.int (0:Int32)), (.int (0:Int32))] (.int (0:Int32)) := (Va_46.keep K41q (ninS (Nat.ne_of_lt lt_b8_b39) nin0))
    have Va_61 : Arv Z T41.heap b13 k13 .int (4:Int32) [(.int (0:Int32)), (.int (0:Int32)), (.int (0:Int32)), (.int (0:Int32))] (.int (0:Int32)) := (Va_43.keep K41q (ninS (Nat.ne_of_lt lt_b13_b39) nin0))
    obtain ⟨cc0, kc0, hcc0, Vcc0, ltcc0⟩ := own_picked (own_l03 hl0) Va_58 Va_59 Va_60 Va_61 (show b1 < b4 by omega) (show b4 < b8 by omega) (show b8 < b13 by omega) (show b13 < b24 by omega)
    have pre62 : ∀ t, Steps p.tables e below (T56.setTop (mkF m 101 #[.val (.int p0), .val (.int p1), .val (.int p2), .val (.int p3), .val (.int p4), .val (.ref b1), .val (.ref b4), .val (.ref b8), .val (.ref b13), .val (.int (1:Int32)), .val (.int l0), .val (.int l1), .val (.int l2), .val (.int rr), .val (.ref b24), .val (.ref b39), .unset, .unset, .unset, .unset] [(.ref (own_pick l0 b1 b4 b8 b13)), (.ref b24), (.ref b39)])) t → Steps p.tables e below (s₁.setTop (entryFrame m #[(.int p0), (.int p1), (.int p2), (.int p3), (.int p4)] maxLocals)) t := fun t k => pre51 t (by
      show Steps p.tables e below (T41.setTop (mkF m 79 #[.val (.int p0), .val (.int p1), .val (.int p2), .val (.int p3), .val (.int p4), .val (.ref b1), .val (.ref b4), .val (.ref b8), .val (.ref b13), .val (.int (1:Int32)), .val (.int l0), .val (.int l1), .val (.int l2), .val (.int rr), .val (.ref b24), .val (.ref b39), .unset, .unset, .unset, .unset] [])) _
      refine XS.iload X41.here hx rfl (hb hby at_79) rfl ?_
      refine XS.ifNo X41.here hx rfl (hb hby at_81) rfl ((if0 _ _).trans (tlt ((by decide) : (0:Int32) < (1:Int32))).2.2.2) ?_
      refine XS.aload X41.here hx rfl (hb hby at_84) rfl rfl ?_
      refine XS.aload X41.here hx rfl (hb hby at_86) rfl rfl ?_
      refine XS.iload X41.here hx rfl (hb hby at_88) rfl ?_
      refine XS.aload X41.here hx rfl (hb hby at_90) rfl rfl ?_
      refine XS.aload X41.here hx rfl (hb hby at_92) rfl rfl ?_
      refine XS.aload X41.here hx rfl (hb hby at_94) rfl rfl ?_
      refine XS.aload X41.here hx rfl (hb hby at_96) rfl rfl ?_
      show Steps p.tables e below (T41.setTop (mkF m 98 #[.val (.int p0), .val (.int p1), .val (.int p2), .val (.int p3), .val (.int p4), .val (.ref b1), .val (.ref b4), .val (.ref b8), .val (.ref b13), .val (.int (1:Int32)), .val (.int l0), .val (.int l1), .val (.int l2), .val (.int rr), .val (.ref b24), .val (.ref b39), .unset, .unset, .unset, .unset] [(.ref b13), (.ref b8), (.ref b4), (.ref b1), (.int l0), (.ref b24), (.ref b39)])) _
      refine st56 _ ?_
      exact k)
    rw [← hcc0] at pre62
    have Ee_64 : Exa Z T41.heap b39 "com/example/tavola/tavola/profile/RowBatch" := (A39.keep K41q)
    have Ee_65 : Exa Z T41.heap b24 "com/example/tavola/tavola/profile/CsvReader" := (Ee_44.keep K41q)
    have Ff_66 : Fld Z T41.heap b24 "com/example/tavola/tavola/profile/CsvReader" "ends" "[I" (.ref bn) := ((Fn25.ext E39).keep K41q (ninS (Nat.ne_of_lt lt_b24_b39) nin0))
    have Va_67 : Arv Z T41.heap bn kn .int (16:Int32) [] (.int (0:Int32)) := (Va_47.keep K41q (ninS (Nat.ne_of_lt lt_bn_b39) nin0))
    have Ff_68 : Fld Z T41.heap b24 "com/example/tavola/tavola/profile/CsvReader" "record" "[B" (.ref br) := ((Fr25.ext E39).keep K41q (ninS (Nat.ne_of_lt lt_b24_b39) nin0))
    have Aa_69 : own_Arf Z T41.heap br kr .byte (256:Int32) (.int (0:Int32)) := (own_arfK Aa_48 K41q (ninS (Nat.ne_of_lt lt_br_b39) nin0))
    obtain ⟨cq63, kq63, q63a, q63b, q63c⟩ := isOf hZ e56q (Ee_64)
    obtain ⟨_, _, ⟨T63, L63, k63, n63⟩, -, X63, ⟨Lc63, hQ63, l63, y63, z63⟩, st63⟩ := X56.virtualBack hx (y := (⟨"com/example/tavola/tavola/profile/RowBatch", "add", "(Lcom/example/tavola/tavola/profile/CsvReader;[IJJJ)I"⟩ : MethodName)) (z := (⟨"com/example/tavola/tavola/profile/RowBatch", "add", "(Lcom/example/tavola/tavola/profile/CsvReader;[IJJJ)I"⟩ : MethodName)) hown (mvT hZ (hw _ (oG (i := 60) rfl))) (mvT hZ (hw _ (oG (i := 61) rfl))) (notFace_of_selects (args := #[]) (mvT hZ (hw _ (oG (i := 63) rfl)))) (mvT hZ (hw _ (oG (i := 63) rfl))) (mvT hZ (hw _ (oG (i := 62) rfl))) (by decide) (backOf (W := 0) (rm6_0 l Z aw hw [] b39 b24 cc0 (0:Int64) (0:Int64) (0:Int64) bn br bk be bh bf bg bx bs kn kr kc0 kk ke kh kf kg kx ks (l0 + (1:Int32)) sc (0:Int32) (0:Int32) (0:Int32) (0:Int32) T41.heap n0 Zz_57 Ee_64 Ee_65 Ff_66 Va_67 Ff_68 Aa_69 Vcc0 Fi0_41 Fi1_41 Fi2_41 Fa0_41 Fa1_41 Fa2_41 Fa3_41 Fa4_41 Fa5_41 Fa6_41 Va0_41 Va1_41 Va2_41 Va3_41 Va4_41 Va5_41 Va6_41 (by omega) (by omega) (by omega) (by omega) (by omega) (by omega) (by omega) (by omega) (by omega) (by omega) (by omega) g_b39 g_bk g_be g_bh g_bf g_bg g_bx g_bs (own_hL (own_l03 hl0)) hsc (by decide) (by decide)) hZ (hw _ (oG (i := 64) rfl)) (hw _ (oG (i := 28) rfl)) (by decide) (by decide)) q63a q63c (g := (mkF m 104 #[.val (.int p0), .val (.int p1), .val (.int p2), .val (.int p3), .val (.int p4), .val (.ref b1), .val (.ref b4), .val (.ref b8), .val (.ref b13), .val (.int (1:Int32)), .val (.int l0), .val (.int l1), .val (.int l2), .val (.int rr), .val (.ref b24), .val (.ref b39), .unset, .unset, .unset, .unset] [(.long (0:Int64)), (.long (0:Int64)), (.long (0:Int64)), (.ref cc0), (.ref b24), (.ref b39)])) rfl (by rw [hml]; rfl) (Steps.refl _) (argsL := [(.ref b24), (.ref cc0), (.long (0:Int64)), (.long (0:Int64)), (.long (0:Int64))]) (rest := []) (lenOf pd_rm0_4 rfl) rfl (by show 2 * 0 + _ ≤ _; exact Nat.le_of_eq rfl) (hb hby at_104) (fun _ _ => ⟨rfl, e56q, (by decide : 17 + 0 ≤ _), (by decide : 139585 + 0 ≤ _)⟩)
    dsimp only [Pt.U, Pt.locs, Pt.cells, Pt.slots] at X63 l63 y63 z63 st63 hQ63
    subst l63 y63 z63
    obtain ⟨rfl, N63q, K63q, Fi0_63, Fi1_63, Fi2_63, Fa0_63, Fa1_63, Fa2_63, Fa3_63, Fa4_63, Fa5_63, Fa6_63, Va0_63, Va1_63, Va2_63, Va3_63, Va4_63, Va5_63, Va6_63⟩ := hQ63
    have N63 := Fr.app N56 N63q
    have pre70 : ∀ t, Steps p.tables e below (T63.setTop (mkF m 168 #[.val (.int p0), .val (.int p1), .val (.int p2), .val (.int p3), .val (.int p4), .val (.ref b1), .val (.ref b4), .val (.ref b8), .val (.ref b13), .val (.int (1:Int32)), .val (.int l0), .val (.int l1), .val (.int l2), .val (.int rr), .val (.ref b24), .val (.ref b39), .unset, .unset, .unset, .unset] [])) t → Steps p.tables e below (s₁.setTop (entryFrame m #[(.int p0), (.int p1), (.int p2), (.int p3), (.int p4)] maxLocals)) t := fun t k => pre62 t (by
      show Steps p.tables e below (T56.setTop (mkF m 101 #[.val (.int p0), .val (.int p1), .val (.int p2), .val (.int p3), .val (.int p4), .val (.ref b1), .val (.ref b4), .val (.ref b8), .val (.ref b13), .val (.int (1:Int32)), .val (.int l0), .val (.int l1), .val (.int l2), .val (.int rr), .val (.ref b24), .val (.ref b39), .unset, .unset, .unset, .unset] [(.ref cc0), (.ref b24), (.ref b39)])) _
      refine XS.lconst X56.here hx rfl (hb hby at_101) ?_
      refine XS.lconst X56.here hx rfl (hb hby at_102) ?_
      refine XS.lconst X56.here hx rfl (hb hby at_103) ?_
      show Steps p.tables e below (T56.setTop (mkF m 104 #[.val (.int p0), .val (.int p1), .val (.int p2), .val (.int p3), .val (.int p4), .val (.ref b1), .val (.ref b4), .val (.ref b8), .val (.ref b13), .val (.int (1:Int32)), .val (.int l0), .val (.int l1), .val (.int l2), .val (.int rr), .val (.ref b24), .val (.ref b39), .unset, .unset, .unset, .unset] [(.long (0:Int64)), (.long (0:Int64)), (.long (0:Int64)), (.ref cc0), (.ref b24), (.ref b39)])) _
      refine st63.trans ?_
      show Steps p.tables e below (T63.setTop (mkF m 107 #[.val (.int p0), .val (.int p1), .val (.int p2), .val (.int p3), .val (.int p4), .val (.ref b1), .val (.ref b4), .val (.ref b8), .val (.ref b13), .val (.int (1:Int32)), .val (.int l0), .val (.int l1), .val (.int l2), .val (.int rr), .val (.ref b24), .val (.ref b39), .unset, .unset, .unset, .unset] [(.int (0:Int32))])) _
      refine XS.pop X63.here hx rfl (hb hby at_107) rfl rfl ?_
      refine XS.iload X63.here hx rfl (hb hby at_108) rfl ?_
      refine XS.iconst X63.here hx rfl (hb hby at_110) ?_
      refine XS.icmpYes X63.here hx rfl (pc0 := 111) (pc' := 138) rfl (hb hby at_111) rfl (flt ((by decide) : ¬ ((1:Int32) < (1:Int32)))).2.2.2 (by decide) (by decide) ?_
      refine XS.iload X63.here hx rfl (hb hby at_138) rfl ?_
      refine XS.iconst X63.here hx rfl (hb hby at_140) ?_
      refine XS.icmpYes X63.here hx rfl (pc0 := 141) (pc' := 168) rfl (hb hby at_141) rfl (flt ((by decide) : ¬ ((2:Int32) < (1:Int32)))).2.2.2 (by decide) (by decide) ?_
      exact k)
    rcases own_rr1 hrr with rfl | rfl
    · have Zz_72 : n0 ≤ T63.heap.size := (Nat.le_trans Zz_57 K63q.1)
      have Ee_73 : Exa Z T63.heap b39 "com/example/tavola/tavola/profile/RowBatch" := (Ee_64.keep K63q)
      obtain ⟨cq71, kq71, q71a, q71b, q71c⟩ := isOf hZ rfl (Ee_73)
      obtain ⟨_, _, ⟨T71, L71, k71, n71⟩, -, X71, ⟨Lc71, hQ71, l71, y71, z71⟩, st71⟩ := X63.virtualBack hx (y := (⟨"com/example/tavola/tavola/profile/RowBatch", "keyStart", "(I)I"⟩ : MethodName)) (z := (⟨"com/example/tavola/tavola/profile/RowBatch", "keyStart", "(I)I"⟩ : MethodName)) hown (mvT hZ (hw _ (oG (i := 51) rfl))) (mvT hZ (hw _ (oG (i := 52) rfl))) (notFace_of_selects (args := #[]) (mvT hZ (hw _ (oG (i := 54) rfl)))) (mvT hZ (hw _ (oG (i := 54) rfl))) (mvT hZ (hw _ (oG (i := 53) rfl))) (by decide) (backOf (W := 0) (rm4_0 l Z aw hw [] b39 be ke ((0:Int32) + ((own_kl (l0 + (1:Int32))).toInt32)) (0:Int32) (0:Int32) T63.heap n0 Zz_72 Fa1_63 Va1_63) hZ (hw _ (oG (i := 55) rfl)) (hw _ (oG (i := 28) rfl)) (by decide) (by decide)) q71a q71c (g := (mkF m 241 #[.val (.int p0), .val (.int p1), .val (.int p2), .val (.int p3), .val (.int p4), .val (.ref b1), .val (.ref b4), .val (.ref b8), .val (.ref b13), .val (.int (1:Int32)), .val (.int l0), .val (.int l1), .val (.int l2), .val (.int (0:Int32)), .val (.ref b24), .val (.ref b39), .val (.int (0:Int32)), .val (.int l0), .unset, .unset] [(.int (0:Int32)), (.ref b39)])) rfl (by rw [hml]; rfl) (Steps.refl _) (argsL := [(.int (0:Int32))]) (rest := []) (lenOf pd_rm0_2 rfl) rfl (by show 2 * 0 + _ ≤ _; exact Nat.le_of_eq rfl) (hb hby at_241) (fun _ _ => ⟨rfl, rfl, (by decide : 17 + 0 ≤ _), (by decide : 139585 + 0 ≤ _)⟩)
      dsimp only [Pt.U, Pt.locs, Pt.cells, Pt.slots] at X71 l71 y71 z71 st71 hQ71
      subst l71 y71 z71
      obtain ⟨rfl, N71q, e71q⟩ := hQ71
      have N71 := Fr.app N63 N71q
      obtain ⟨cq74, kq74, q74a, q74b, q74c⟩ := isOf hZ e71q (Ee_73)
      obtain ⟨_, _, ⟨T74, L74, k74, n74⟩, -, X74, ⟨Lc74, hQ74, l74, y74, z74⟩, st74⟩ := X71.virtualBack hx (y := (⟨"com/example/tavola/tavola/profile/RowBatch", "keyEnd", "(I)I"⟩ : MethodName)) (z := (⟨"com/example/tavola/tavola/profile/RowBatch", "keyEnd", "(I)I"⟩ : MethodName)) hown (mvT hZ (hw _ (oG (i := 99) rfl))) (mvT hZ (hw _ (oG (i := 100) rfl))) (notFace_of_selects (args := #[]) (mvT hZ (hw _ (oG (i := 102) rfl)))) (mvT hZ (hw _ (oG (i := 102) rfl))) (mvT hZ (hw _ (oG (i := 101) rfl))) (by decide) (backOf (W := 0) (rm13_0 l Z aw hw [] b39 be ke ((0:Int32) + ((own_kl (l0 + (1:Int32))).toInt32)) (0:Int32) (0:Int32) T63.heap n0 Zz_72 Fa1_63 Va1_63) hZ (hw _ (oG (i := 103) rfl)) (hw _ (oG (i := 28) rfl)) (by decide) (by decide)) q74a q74c (g := (mkF m 276 #[.val (.int p0), .val (.int p1), .val (.int p2), .val (.int p3), .val (.int p4), .val (.ref b1), .val (.ref b4), .val (.ref b8), .val (.ref b13), .val (.int (1:Int32)), .val (.int l0), .val (.int l1), .val (.int l2), .val (.int (0:Int32)), .val (.ref b24), .val (.ref b39), .val (.int (0:Int32)), .val (.int l0), .val (.int (0:Int32)), .val (.int (1:Int32))] [(.int (0:Int32)), (.ref b39)])) rfl (by rw [hml]; rfl) (Steps.refl _) (argsL := [(.int (0:Int32))]) (rest := []) (lenOf pd_rm0_2 rfl) rfl (by show 2 * 0 + _ ≤ _; exact Nat.le_of_eq rfl) (hb hby at_276) (fun _ _ => ⟨rfl, e71q, (by decide : 17 + 0 ≤ _), (by decide : 139585 + 0 ≤ _)⟩)
      dsimp only [Pt.U, Pt.locs, Pt.cells, Pt.slots] at X74 l74 y74 z74 st74 hQ74
      subst l74 y74 z74
      obtain ⟨rfl, N74q, e74q⟩ := hQ74
      have N74 := Fr.app N71 N74q
      obtain ⟨fs, hr, hrun, hended, hW, hsame⟩ := X74.leave (v := some (.int (1:Int32))) (fun h => by rw [Bd.returns] at h; cases h)
      refine ⟨_, _, pre70 _ ?_, hrun, hended, _, _, rfl, ?_, ⟨_, rfl⟩, hW, hsame.mono (by decide) (by decide)⟩
      · show Steps p.tables e below (T63.setTop (mkF m 168 #[.val (.int p0), .val (.int p1), .val (.int p2), .val (.int p3), .val (.int p4), .val (.ref b1), .val (.ref b4), .val (.ref b8), .val (.ref b13), .val (.int (1:Int32)), .val (.int l0), .val (.int l1), .val (.int l2), .val (.int (0:Int32)), .val (.ref b24), .val (.ref b39), .unset, .unset, .unset, .unset] [])) _
        refine XS.iload X63.here hx rfl (hb hby at_168) rfl ?_
        refine XS.ifNo X63.here hx rfl (hb hby at_170) rfl ((if0 _ _).trans (teq (rfl : (0:Int32) = (0:Int32))).2) ?_
        refine XS.iconst X63.here hx rfl (hb hby at_173) ?_
        refine XS.goto X63.here hx rfl (pc0 := 174) (pc' := 210) rfl (hb hby at_174) (by decide) (by decide) ?_
        refine XS.istore X63.here hx rfl (hb hby at_210) rfl (l' := #[.val (.int p0), .val (.int p1), .val (.int p2), .val (.int p3), .val (.int p4), .val (.ref b1), .val (.ref b4), .val (.ref b8), .val (.ref b13), .val (.int (1:Int32)), .val (.int l0), .val (.int l1), .val (.int l2), .val (.int (0:Int32)), .val (.ref b24), .val (.ref b39), .val (.int (0:Int32)), .unset, .unset, .unset]) rfl ?_
        refine XS.iload X63.here hx rfl (hb hby at_212) rfl ?_
        refine XS.ifNo X63.here hx rfl (hb hby at_214) rfl ((if0 _ _).trans (teq (rfl : (0:Int32) = (0:Int32))).2) ?_
        refine XS.iload X63.here hx rfl (hb hby at_217) rfl ?_
        refine XS.goto X63.here hx rfl (pc0 := 219) (pc' := 235) rfl (hb hby at_219) (by decide) (by decide) ?_
        refine XS.istore X63.here hx rfl (hb hby at_235) rfl (l' := #[.val (.int p0), .val (.int p1), .val (.int p2), .val (.int p3), .val (.int p4), .val (.ref b1), .val (.ref b4), .val (.ref b8), .val (.ref b13), .val (.int (1:Int32)), .val (.int l0), .val (.int l1), .val (.int l2), .val (.int (0:Int32)), .val (.ref b24), .val (.ref b39), .val (.int (0:Int32)), .val (.int l0), .unset, .unset]) rfl ?_
        refine XS.aload X63.here hx rfl (hb hby at_237) rfl rfl ?_
        refine XS.iload X63.here hx rfl (hb hby at_239) rfl ?_
        show Steps p.tables e below (T63.setTop (mkF m 241 #[.val (.int p0), .val (.int p1), .val (.int p2), .val (.int p3), .val (.int p4), .val (.ref b1), .val (.ref b4), .val (.ref b8), .val (.ref b13), .val (.int (1:Int32)), .val (.int l0), .val (.int l1), .val (.int l2), .val (.int (0:Int32)), .val (.ref b24), .val (.ref b39), .val (.int (0:Int32)), .val (.int l0), .unset, .unset] [(.int (0:Int32)), (.ref b39)])) _
        refine st71.trans ?_
        show Steps p.tables e below (T71.setTop (mkF m 244 #[.val (.int p0), .val (.int p1), .val (.int p2), .val (.int p3), .val (.int p4), .val (.ref b1), .val (.ref b4), .val (.ref b8), .val (.ref b13), .val (.int (1:Int32)), .val (.int l0), .val (.int l1), .val (.int l2), .val (.int (0:Int32)), .val (.ref b24), .val (.ref b39), .val (.int (0:Int32)), .val (.int l0), .unset, .unset] [(.int (0:Int32))])) _
        refine XS.istore X71.here hx rfl (hb hby at_244) rfl (l' := #[.val (.int p0), .val (.int p1), .val (.int p2), .val (.int p3), .val (.int p4), .val (.ref b1), .val (.ref b4), .val (.ref b8), .val (.ref b13), .val (.int (1:Int32)), .val (.int l0), .val (.int l1), .val (.int l2), .val (.int (0:Int32)), .val (.ref b24), .val (.ref b39), .val (.int (0:Int32)), .val (.int l0), .val (.int (0:Int32)), .unset]) rfl ?_
        refine XS.iload X71.here hx rfl (hb hby at_246) rfl ?_
        refine XS.iload X71.here hx rfl (hb hby at_248) rfl ?_
        refine XS.icmpNo X71.here hx rfl (hb hby at_250) rfl (teq ((by decide) : (0:Int32) = (0:Int32))).2 ?_
        refine XS.iconst X71.here hx rfl (hb hby at_253) ?_
        refine XS.goto X71.here hx rfl (pc0 := 254) (pc' := 258) rfl (hb hby at_254) (by decide) (by decide) ?_
        refine XS.istore X71.here hx rfl (hb hby at_258) rfl (l' := #[.val (.int p0), .val (.int p1), .val (.int p2), .val (.int p3), .val (.int p4), .val (.ref b1), .val (.ref b4), .val (.ref b8), .val (.ref b13), .val (.int (1:Int32)), .val (.int l0), .val (.int l1), .val (.int l2), .val (.int (0:Int32)), .val (.ref b24), .val (.ref b39), .val (.int (0:Int32)), .val (.int l0), .val (.int (0:Int32)), .val (.int (1:Int32))]) rfl ?_
        refine XS.iload X71.here hx rfl (hb hby at_260) rfl ?_
        refine XS.iload X71.here hx rfl (hb hby at_262) rfl ?_
        refine XS.icmpNo X71.here hx rfl (hb hby at_264) rfl (tlt ((by decide) : (0:Int32) < (1:Int32))).2.1 ?_
        refine XS.iload X71.here hx rfl (hb hby at_267) rfl ?_
        refine XS.ifNo X71.here hx rfl (hb hby at_269) rfl ((if0 _ _).trans (feq ((by decide) : ¬ ((1:Int32) = (0:Int32)))).1) ?_
        refine XS.aload X71.here hx rfl (hb hby at_272) rfl rfl ?_
        refine XS.iload X71.here hx rfl (hb hby at_274) rfl ?_
        show Steps p.tables e below (T71.setTop (mkF m 276 #[.val (.int p0), .val (.int p1), .val (.int p2), .val (.int p3), .val (.int p4), .val (.ref b1), .val (.ref b4), .val (.ref b8), .val (.ref b13), .val (.int (1:Int32)), .val (.int l0), .val (.int l1), .val (.int l2), .val (.int (0:Int32)), .val (.ref b24), .val (.ref b39), .val (.int (0:Int32)), .val (.int l0), .val (.int (0:Int32)), .val (.int (1:Int32))] [(.int (0:Int32)), (.ref b39)])) _
        refine st74.trans ?_
        show Steps p.tables e below (T74.setTop (mkF m 279 #[.val (.int p0), .val (.int p1), .val (.int p2), .val (.int p3), .val (.int p4), .val (.ref b1), .val (.ref b4), .val (.ref b8), .val (.ref b13), .val (.int (1:Int32)), .val (.int l0), .val (.int l1), .val (.int l2), .val (.int (0:Int32)), .val (.ref b24), .val (.ref b39), .val (.int (0:Int32)), .val (.int l0), .val (.int (0:Int32)), .val (.int (1:Int32))] [(.int ((0:Int32) + ((own_kl (l0 + (1:Int32))).toInt32)))])) _
        refine XS.iload X74.here hx rfl (hb hby at_279) rfl ?_
        refine XS.isub X74.here hx rfl (hb hby at_281) rfl ?_
        refine XS.iload X74.here hx rfl (hb hby at_282) rfl ?_
        refine XS.icmpNo X74.here hx rfl (hb hby at_284) rfl (teq ((own_fin1 (fun l0 => (((0:Int32) + ((own_kl (l0 + (1:Int32))).toInt32)) - (0:Int32)) = l0) (by decide) (own_l03 hl0)) : (((0:Int32) + ((own_kl (l0 + (1:Int32))).toInt32)) - (0:Int32)) = l0)).2 ?_
        refine XS.iconst X74.here hx rfl (hb hby at_287) ?_
        refine XS.goto X74.here hx rfl (pc0 := 288) (pc' := 292) rfl (hb hby at_288) (by decide) (by decide) ?_
        refine XS.istore X74.here hx rfl (hb hby at_292) rfl (l' := #[.val (.int p0), .val (.int p1), .val (.int p2), .val (.int p3), .val (.int p4), .val (.ref b1), .val (.ref b4), .val (.ref b8), .val (.ref b13), .val (.int (1:Int32)), .val (.int l0), .val (.int l1), .val (.int l2), .val (.int (0:Int32)), .val (.ref b24), .val (.ref b39), .val (.int (0:Int32)), .val (.int l0), .val (.int (0:Int32)), .val (.int (1:Int32))]) rfl ?_
        refine XS.iload X74.here hx rfl (hb hby at_294) rfl ?_
        show Steps p.tables e below (T74.setTop (mkF m 296 #[.val (.int p0), .val (.int p1), .val (.int p2), .val (.int p3), .val (.int p4), .val (.ref b1), .val (.ref b4), .val (.ref b8), .val (.ref b13), .val (.int (1:Int32)), .val (.int l0), .val (.int l1), .val (.int l2), .val (.int (0:Int32)), .val (.ref b24), .val (.ref b39), .val (.int (0:Int32)), .val (.int l0), .val (.int (0:Int32)), .val (.int (1:Int32))] [(.int (1:Int32))])) _
        exact retN X74 hx (t := .boolean) Bd.returns (by simp) (hb hby at_296) hr
      · show rm0Q Z p0 p1 p2 p3 p4 h0 n0 _ T74.heap _
        rw [e74q]
        exact ⟨rfl, N74⟩
    · have Zz_76 : n0 ≤ T63.heap.size := (Nat.le_trans Zz_57 K63q.1)
      have Ee_77 : Exa Z T63.heap b39 "com/example/tavola/tavola/profile/RowBatch" := (Ee_64.keep K63q)
      obtain ⟨cq75, kq75, q75a, q75b, q75c⟩ := isOf hZ rfl (Ee_77)
      obtain ⟨_, _, ⟨T75, L75, k75, n75⟩, -, X75, ⟨Lc75, hQ75, l75, y75, z75⟩, st75⟩ := X63.virtualBack hx (y := (⟨"com/example/tavola/tavola/profile/RowBatch", "keyStart", "(I)I"⟩ : MethodName)) (z := (⟨"com/example/tavola/tavola/profile/RowBatch", "keyStart", "(I)I"⟩ : MethodName)) hown (mvT hZ (hw _ (oG (i := 51) rfl))) (mvT hZ (hw _ (oG (i := 52) rfl))) (notFace_of_selects (args := #[]) (mvT hZ (hw _ (oG (i := 54) rfl)))) (mvT hZ (hw _ (oG (i := 54) rfl))) (mvT hZ (hw _ (oG (i := 53) rfl))) (by decide) (backOf (W := 0) (rm4_1 l Z aw hw [] b39 be ke ((0:Int32) + ((own_kl (l0 + (1:Int32))).toInt32)) (0:Int32) (0:Int32) T63.heap n0 Zz_76 Fa1_63 Va1_63) hZ (hw _ (oG (i := 55) rfl)) (hw _ (oG (i := 28) rfl)) (by decide) (by decide)) q75a q75c (g := (mkF m 241 #[.val (.int p0), .val (.int p1), .val (.int p2), .val (.int p3), .val (.int p4), .val (.ref b1), .val (.ref b4), .val (.ref b8), .val (.ref b13), .val (.int (1:Int32)), .val (.int l0), .val (.int l1), .val (.int l2), .val (.int (1:Int32)), .val (.ref b24), .val (.ref b39), .val (.int l0), .val (.int l1), .unset, .unset] [(.int (1:Int32)), (.ref b39)])) rfl (by rw [hml]; rfl) (Steps.refl _) (argsL := [(.int (1:Int32))]) (rest := []) (lenOf pd_rm0_2 rfl) rfl (by show 2 * 0 + _ ≤ _; exact Nat.le_of_eq rfl) (hb hby at_241) (fun _ _ => ⟨rfl, rfl, (by decide : 17 + 0 ≤ _), (by decide : 139585 + 0 ≤ _)⟩)
      dsimp only [Pt.U, Pt.locs, Pt.cells, Pt.slots] at X75 l75 y75 z75 st75 hQ75
      subst l75 y75 z75
      obtain ⟨rfl, N75q, e75q⟩ := hQ75
      have N75 := Fr.app N63 N75q
      obtain ⟨fs, hr, hrun, hended, hW, hsame⟩ := X75.leave (v := some (.int (1:Int32))) (fun h => by rw [Bd.returns] at h; cases h)
      refine ⟨_, _, pre70 _ ?_, hrun, hended, _, _, rfl, ?_, ⟨_, rfl⟩, hW, hsame.mono (by decide) (by decide)⟩
      · show Steps p.tables e below (T63.setTop (mkF m 168 #[.val (.int p0), .val (.int p1), .val (.int p2), .val (.int p3), .val (.int p4), .val (.ref b1), .val (.ref b4), .val (.ref b8), .val (.ref b13), .val (.int (1:Int32)), .val (.int l0), .val (.int l1), .val (.int l2), .val (.int (1:Int32)), .val (.ref b24), .val (.ref b39), .unset, .unset, .unset, .unset] [])) _
        refine XS.iload X63.here hx rfl (hb hby at_168) rfl ?_
        refine XS.ifYes X63.here hx rfl (pc0 := 170) (pc' := 177) rfl (hb hby at_170) rfl ((if0 _ _).trans (feq ((by decide) : ¬ ((1:Int32) = (0:Int32)))).2) (by decide) (by decide) ?_
        refine XS.iload X63.here hx rfl (hb hby at_177) rfl ?_
        refine XS.iconst X63.here hx rfl (hb hby at_179) ?_
        refine XS.icmpNo X63.here hx rfl (hb hby at_180) rfl (teq (rfl : (1:Int32) = (1:Int32))).2 ?_
        refine XS.iload X63.here hx rfl (hb hby at_183) rfl ?_
        refine XS.goto X63.here hx rfl (pc0 := 185) (pc' := 210) rfl (hb hby at_185) (by decide) (by decide) ?_
        refine XS.istore X63.here hx rfl (hb hby at_210) rfl (l' := #[.val (.int p0), .val (.int p1), .val (.int p2), .val (.int p3), .val (.int p4), .val (.ref b1), .val (.ref b4), .val (.ref b8), .val (.ref b13), .val (.int (1:Int32)), .val (.int l0), .val (.int l1), .val (.int l2), .val (.int (1:Int32)), .val (.ref b24), .val (.ref b39), .val (.int l0), .unset, .unset, .unset]) rfl ?_
        refine XS.iload X63.here hx rfl (hb hby at_212) rfl ?_
        refine XS.ifYes X63.here hx rfl (pc0 := 214) (pc' := 222) rfl (hb hby at_214) rfl ((if0 _ _).trans (feq ((by decide) : ¬ ((1:Int32) = (0:Int32)))).2) (by decide) (by decide) ?_
        refine XS.iload X63.here hx rfl (hb hby at_222) rfl ?_
        refine XS.iconst X63.here hx rfl (hb hby at_224) ?_
        refine XS.icmpNo X63.here hx rfl (hb hby at_225) rfl (teq (rfl : (1:Int32) = (1:Int32))).2 ?_
        refine XS.iload X63.here hx rfl (hb hby at_228) rfl ?_
        refine XS.goto X63.here hx rfl (pc0 := 230) (pc' := 235) rfl (hb hby at_230) (by decide) (by decide) ?_
        refine XS.istore X63.here hx rfl (hb hby at_235) rfl (l' := #[.val (.int p0), .val (.int p1), .val (.int p2), .val (.int p3), .val (.int p4), .val (.ref b1), .val (.ref b4), .val (.ref b8), .val (.ref b13), .val (.int (1:Int32)), .val (.int l0), .val (.int l1), .val (.int l2), .val (.int (1:Int32)), .val (.ref b24), .val (.ref b39), .val (.int l0), .val (.int l1), .unset, .unset]) rfl ?_
        refine XS.aload X63.here hx rfl (hb hby at_237) rfl rfl ?_
        refine XS.iload X63.here hx rfl (hb hby at_239) rfl ?_
        show Steps p.tables e below (T63.setTop (mkF m 241 #[.val (.int p0), .val (.int p1), .val (.int p2), .val (.int p3), .val (.int p4), .val (.ref b1), .val (.ref b4), .val (.ref b8), .val (.ref b13), .val (.int (1:Int32)), .val (.int l0), .val (.int l1), .val (.int l2), .val (.int (1:Int32)), .val (.ref b24), .val (.ref b39), .val (.int l0), .val (.int l1), .unset, .unset] [(.int (1:Int32)), (.ref b39)])) _
        refine st75.trans ?_
        show Steps p.tables e below (T75.setTop (mkF m 244 #[.val (.int p0), .val (.int p1), .val (.int p2), .val (.int p3), .val (.int p4), .val (.ref b1), .val (.ref b4), .val (.ref b8), .val (.ref b13), .val (.int (1:Int32)), .val (.int l0), .val (.int l1), .val (.int l2), .val (.int (1:Int32)), .val (.ref b24), .val (.ref b39), .val (.int l0), .val (.int l1), .unset, .unset] [(.int ((0:Int32) + ((own_kl (l0 + (1:Int32))).toInt32)))])) _
        refine XS.istore X75.here hx rfl (hb hby at_244) rfl (l' := #[.val (.int p0), .val (.int p1), .val (.int p2), .val (.int p3), .val (.int p4), .val (.ref b1), .val (.ref b4), .val (.ref b8), .val (.ref b13), .val (.int (1:Int32)), .val (.int l0), .val (.int l1), .val (.int l2), .val (.int (1:Int32)), .val (.ref b24), .val (.ref b39), .val (.int l0), .val (.int l1), .val (.int ((0:Int32) + ((own_kl (l0 + (1:Int32))).toInt32))), .unset]) rfl ?_
        refine XS.iload X75.here hx rfl (hb hby at_246) rfl ?_
        refine XS.iload X75.here hx rfl (hb hby at_248) rfl ?_
        refine XS.icmpNo X75.here hx rfl (hb hby at_250) rfl (teq ((own_fin1 (fun l0 => ((0:Int32) + ((own_kl (l0 + (1:Int32))).toInt32)) = l0) (by decide) (own_l03 hl0)) : ((0:Int32) + ((own_kl (l0 + (1:Int32))).toInt32)) = l0)).2 ?_
        refine XS.iconst X75.here hx rfl (hb hby at_253) ?_
        refine XS.goto X75.here hx rfl (pc0 := 254) (pc' := 258) rfl (hb hby at_254) (by decide) (by decide) ?_
        refine XS.istore X75.here hx rfl (hb hby at_258) rfl (l' := #[.val (.int p0), .val (.int p1), .val (.int p2), .val (.int p3), .val (.int p4), .val (.ref b1), .val (.ref b4), .val (.ref b8), .val (.ref b13), .val (.int (1:Int32)), .val (.int l0), .val (.int l1), .val (.int l2), .val (.int (1:Int32)), .val (.ref b24), .val (.ref b39), .val (.int l0), .val (.int l1), .val (.int ((0:Int32) + ((own_kl (l0 + (1:Int32))).toInt32))), .val (.int (1:Int32))]) rfl ?_
        refine XS.iload X75.here hx rfl (hb hby at_260) rfl ?_
        refine XS.iload X75.here hx rfl (hb hby at_262) rfl ?_
        refine XS.icmpYes X75.here hx rfl (pc0 := 264) (pc' := 294) rfl (hb hby at_264) rfl (flt ((by decide) : ¬ ((1:Int32) < (1:Int32)))).2.1 (by decide) (by decide) ?_
        refine XS.iload X75.here hx rfl (hb hby at_294) rfl ?_
        show Steps p.tables e below (T75.setTop (mkF m 296 #[.val (.int p0), .val (.int p1), .val (.int p2), .val (.int p3), .val (.int p4), .val (.ref b1), .val (.ref b4), .val (.ref b8), .val (.ref b13), .val (.int (1:Int32)), .val (.int l0), .val (.int l1), .val (.int l2), .val (.int (1:Int32)), .val (.ref b24), .val (.ref b39), .val (.int l0), .val (.int l1), .val (.int ((0:Int32) + ((own_kl (l0 + (1:Int32))).toInt32))), .val (.int (1:Int32))] [(.int (1:Int32))])) _
        exact retN X75 hx (t := .boolean) Bd.returns (by simp) (hb hby at_296) hr
      · show rm0Q Z p0 p1 p2 p3 p4 h0 n0 _ T75.heap _
        rw [e75q]
        exact ⟨rfl, N75⟩
  · have Zz_79 : n0 ≤ T41.heap.size := (Nat.le_trans Zz_50 K41q.1)
    obtain ⟨_, _, ⟨T78, L78, k78, n78⟩, -, X78, ⟨Lc78, hQ78, l78, y78, z78⟩, st78⟩ := Jvm.LawKit.callS X41 hx (y := (⟨"com/example/tavola/tavola/profile/RowBatchKeyStartPinLaw", "pick", "(I[I[I[I[I)[I"⟩ : MethodName)) hown (mvT hZ (hw _ (oG (i := 56) rfl))) (mvT hZ (hw _ (oG (i := 57) rfl))) (mvT hZ (hw _ (oG (i := 58) rfl))) (mvT hZ (hw _ (oG (i := 59) rfl))) (by decide) (backOf (W := 2) (rm5 l Z aw hw [] l0 b1 b4 b8 b13 T41.heap n0 Zz_79) hZ (hw _ (oG (i := 59) rfl)) (hw _ (oG (i := 58) rfl)) (by decide) (by decide)) (g := (mkF m 98 #[.val (.int p0), .val (.int p1), .val (.int p2), .val (.int p3), .val (.int p4), .val (.ref b1), .val (.ref b4), .val (.ref b8), .val (.ref b13), .val (.int (2:Int32)), .val (.int l0), .val (.int l1), .val (.int l2), .val (.int rr), .val (.ref b24), .val (.ref b39), .unset, .unset, .unset, .unset] [(.ref b13), (.ref b8), (.ref b4), (.ref b1), (.int l0), (.ref b24), (.ref b39)])) rfl (by rw [hml]; rfl) (argsL := [(.int l0), (.ref b1), (.ref b4), (.ref b8), (.ref b13)]) (rest := [(.ref b24), (.ref b39)]) (lenOf pd_rm0_3 rfl) rfl (by show 2 * 0 + _ ≤ _; exact Nat.le_of_eq rfl) (hb hby at_98) (fun _ _ => ⟨rfl, rfl, (by decide : 17 + 0 ≤ _), (by decide : 139585 + 0 ≤ _)⟩)
    dsimp only [Pt.U, Pt.locs, Pt.cells, Pt.slots] at X78 l78 y78 z78 st78 hQ78
    subst l78 y78 z78
    obtain ⟨rfl, N78q, e78q⟩ := hQ78
    have N78 := Fr.app N41 N78q
    have Va_80 : Arv Z T41.heap b1 k1 .int (1:Int32) [(.int (0:Int32))] (.int (0:Int32)) := (Va_42.keep K41q (ninS (Nat.ne_of_lt lt_b1_b39) nin0))
    have Va_81 : Arv Z T41.heap b4 k4 .int (2:Int32) [(.int (0:Int32)), (.int (0:Int32))] (.int (0:Int32)) := (Va_45.keep K41q (ninS (Nat.ne_of_lt lt_b4_b39) nin0))
    have Va_82 : Arv Z T41.heap b8 k8 .int (3:Int32) [(.int (0:Int32)), (.int (0:Int32)), (.int (0:Int32))] (.int (0:Int32)) := (Va_46.keep K41q (ninS (Nat.ne_of_lt lt_b8_b39) nin0))
    have Va_83 : Arv Z T41.heap b13 k13 .int (4:Int32) [(.int (0:Int32)), (.int (0:Int32)), (.int (0:Int32)), (.int (0:Int32))] (.int (0:Int32)) := (Va_43.keep K41q (ninS (Nat.ne_of_lt lt_b13_b39) nin0))
    obtain ⟨cc0, kc0, hcc0, Vcc0, ltcc0⟩ := own_picked (own_l03 hl0) Va_80 Va_81 Va_82 Va_83 (show b1 < b4 by omega) (show b4 < b8 by omega) (show b8 < b13 by omega) (show b13 < b24 by omega)
    have pre84 : ∀ t, Steps p.tables e below (T78.setTop (mkF m 101 #[.val (.int p0), .val (.int p1), .val (.int p2), .val (.int p3), .val (.int p4), .val (.ref b1), .val (.ref b4), .val (.ref b8), .val (.ref b13), .val (.int (2:Int32)), .val (.int l0), .val (.int l1), .val (.int l2), .val (.int rr), .val (.ref b24), .val (.ref b39), .unset, .unset, .unset, .unset] [(.ref (own_pick l0 b1 b4 b8 b13)), (.ref b24), (.ref b39)])) t → Steps p.tables e below (s₁.setTop (entryFrame m #[(.int p0), (.int p1), (.int p2), (.int p3), (.int p4)] maxLocals)) t := fun t k => pre51 t (by
      show Steps p.tables e below (T41.setTop (mkF m 79 #[.val (.int p0), .val (.int p1), .val (.int p2), .val (.int p3), .val (.int p4), .val (.ref b1), .val (.ref b4), .val (.ref b8), .val (.ref b13), .val (.int (2:Int32)), .val (.int l0), .val (.int l1), .val (.int l2), .val (.int rr), .val (.ref b24), .val (.ref b39), .unset, .unset, .unset, .unset] [])) _
      refine XS.iload X41.here hx rfl (hb hby at_79) rfl ?_
      refine XS.ifNo X41.here hx rfl (hb hby at_81) rfl ((if0 _ _).trans (tlt ((by decide) : (0:Int32) < (2:Int32))).2.2.2) ?_
      refine XS.aload X41.here hx rfl (hb hby at_84) rfl rfl ?_
      refine XS.aload X41.here hx rfl (hb hby at_86) rfl rfl ?_
      refine XS.iload X41.here hx rfl (hb hby at_88) rfl ?_
      refine XS.aload X41.here hx rfl (hb hby at_90) rfl rfl ?_
      refine XS.aload X41.here hx rfl (hb hby at_92) rfl rfl ?_
      refine XS.aload X41.here hx rfl (hb hby at_94) rfl rfl ?_
      refine XS.aload X41.here hx rfl (hb hby at_96) rfl rfl ?_
      show Steps p.tables e below (T41.setTop (mkF m 98 #[.val (.int p0), .val (.int p1), .val (.int p2), .val (.int p3), .val (.int p4), .val (.ref b1), .val (.ref b4), .val (.ref b8), .val (.ref b13), .val (.int (2:Int32)), .val (.int l0), .val (.int l1), .val (.int l2), .val (.int rr), .val (.ref b24), .val (.ref b39), .unset, .unset, .unset, .unset] [(.ref b13), (.ref b8), (.ref b4), (.ref b1), (.int l0), (.ref b24), (.ref b39)])) _
      refine st78 _ ?_
      exact k)
    rw [← hcc0] at pre84
    have Ee_86 : Exa Z T41.heap b39 "com/example/tavola/tavola/profile/RowBatch" := (A39.keep K41q)
    have Ee_87 : Exa Z T41.heap b24 "com/example/tavola/tavola/profile/CsvReader" := (Ee_44.keep K41q)
    have Ff_88 : Fld Z T41.heap b24 "com/example/tavola/tavola/profile/CsvReader" "ends" "[I" (.ref bn) := ((Fn25.ext E39).keep K41q (ninS (Nat.ne_of_lt lt_b24_b39) nin0))
    have Va_89 : Arv Z T41.heap bn kn .int (16:Int32) [] (.int (0:Int32)) := (Va_47.keep K41q (ninS (Nat.ne_of_lt lt_bn_b39) nin0))
    have Ff_90 : Fld Z T41.heap b24 "com/example/tavola/tavola/profile/CsvReader" "record" "[B" (.ref br) := ((Fr25.ext E39).keep K41q (ninS (Nat.ne_of_lt lt_b24_b39) nin0))
    have Aa_91 : own_Arf Z T41.heap br kr .byte (256:Int32) (.int (0:Int32)) := (own_arfK Aa_48 K41q (ninS (Nat.ne_of_lt lt_br_b39) nin0))
    obtain ⟨cq85, kq85, q85a, q85b, q85c⟩ := isOf hZ e78q (Ee_86)
    obtain ⟨_, _, ⟨T85, L85, k85, n85⟩, -, X85, ⟨Lc85, hQ85, l85, y85, z85⟩, st85⟩ := X78.virtualBack hx (y := (⟨"com/example/tavola/tavola/profile/RowBatch", "add", "(Lcom/example/tavola/tavola/profile/CsvReader;[IJJJ)I"⟩ : MethodName)) (z := (⟨"com/example/tavola/tavola/profile/RowBatch", "add", "(Lcom/example/tavola/tavola/profile/CsvReader;[IJJJ)I"⟩ : MethodName)) hown (mvT hZ (hw _ (oG (i := 60) rfl))) (mvT hZ (hw _ (oG (i := 61) rfl))) (notFace_of_selects (args := #[]) (mvT hZ (hw _ (oG (i := 63) rfl)))) (mvT hZ (hw _ (oG (i := 63) rfl))) (mvT hZ (hw _ (oG (i := 62) rfl))) (by decide) (backOf (W := 0) (rm6_0 l Z aw hw [] b39 b24 cc0 (0:Int64) (0:Int64) (0:Int64) bn br bk be bh bf bg bx bs kn kr kc0 kk ke kh kf kg kx ks (l0 + (1:Int32)) sc (0:Int32) (0:Int32) (0:Int32) (0:Int32) T41.heap n0 Zz_79 Ee_86 Ee_87 Ff_88 Va_89 Ff_90 Aa_91 Vcc0 Fi0_41 Fi1_41 Fi2_41 Fa0_41 Fa1_41 Fa2_41 Fa3_41 Fa4_41 Fa5_41 Fa6_41 Va0_41 Va1_41 Va2_41 Va3_41 Va4_41 Va5_41 Va6_41 (by omega) (by omega) (by omega) (by omega) (by omega) (by omega) (by omega) (by omega) (by omega) (by omega) (by omega) g_b39 g_bk g_be g_bh g_bf g_bg g_bx g_bs (own_hL (own_l03 hl0)) hsc (by decide) (by decide)) hZ (hw _ (oG (i := 64) rfl)) (hw _ (oG (i := 28) rfl)) (by decide) (by decide)) q85a q85c (g := (mkF m 104 #[.val (.int p0), .val (.int p1), .val (.int p2), .val (.int p3), .val (.int p4), .val (.ref b1), .val (.ref b4), .val (.ref b8), .val (.ref b13), .val (.int (2:Int32)), .val (.int l0), .val (.int l1), .val (.int l2), .val (.int rr), .val (.ref b24), .val (.ref b39), .unset, .unset, .unset, .unset] [(.long (0:Int64)), (.long (0:Int64)), (.long (0:Int64)), (.ref cc0), (.ref b24), (.ref b39)])) rfl (by rw [hml]; rfl) (Steps.refl _) (argsL := [(.ref b24), (.ref cc0), (.long (0:Int64)), (.long (0:Int64)), (.long (0:Int64))]) (rest := []) (lenOf pd_rm0_4 rfl) rfl (by show 2 * 0 + _ ≤ _; exact Nat.le_of_eq rfl) (hb hby at_104) (fun _ _ => ⟨rfl, e78q, (by decide : 17 + 0 ≤ _), (by decide : 139585 + 0 ≤ _)⟩)
    dsimp only [Pt.U, Pt.locs, Pt.cells, Pt.slots] at X85 l85 y85 z85 st85 hQ85
    subst l85 y85 z85
    obtain ⟨rfl, N85q, K85q, Fi0_85, Fi1_85, Fi2_85, Fa0_85, Fa1_85, Fa2_85, Fa3_85, Fa4_85, Fa5_85, Fa6_85, Va0_85, Va1_85, Va2_85, Va3_85, Va4_85, Va5_85, Va6_85⟩ := hQ85
    have N85 := Fr.app N78 N85q
    have Zz_93 : n0 ≤ T85.heap.size := (Nat.le_trans Zz_79 K85q.1)
    obtain ⟨_, _, ⟨T92, L92, k92, n92⟩, -, X92, ⟨Lc92, hQ92, l92, y92, z92⟩, st92⟩ := Jvm.LawKit.callS X85 hx (y := (⟨"com/example/tavola/tavola/profile/RowBatchKeyStartPinLaw", "pick", "(I[I[I[I[I)[I"⟩ : MethodName)) hown (mvT hZ (hw _ (oG (i := 56) rfl))) (mvT hZ (hw _ (oG (i := 57) rfl))) (mvT hZ (hw _ (oG (i := 58) rfl))) (mvT hZ (hw _ (oG (i := 59) rfl))) (by decide) (backOf (W := 2) (rm5 l Z aw hw [] l1 b1 b4 b8 b13 T85.heap n0 Zz_93) hZ (hw _ (oG (i := 59) rfl)) (hw _ (oG (i := 58) rfl)) (by decide) (by decide)) (g := (mkF m 128 #[.val (.int p0), .val (.int p1), .val (.int p2), .val (.int p3), .val (.int p4), .val (.ref b1), .val (.ref b4), .val (.ref b8), .val (.ref b13), .val (.int (2:Int32)), .val (.int l0), .val (.int l1), .val (.int l2), .val (.int rr), .val (.ref b24), .val (.ref b39), .unset, .unset, .unset, .unset] [(.ref b13), (.ref b8), (.ref b4), (.ref b1), (.int l1), (.ref b24), (.ref b39)])) rfl (by rw [hml]; rfl) (argsL := [(.int l1), (.ref b1), (.ref b4), (.ref b8), (.ref b13)]) (rest := [(.ref b24), (.ref b39)]) (lenOf pd_rm0_3 rfl) rfl (by show 2 * 0 + _ ≤ _; exact Nat.le_of_eq rfl) (hb hby at_128) (fun _ _ => ⟨rfl, rfl, (by decide : 17 + 0 ≤ _), (by decide : 139585 + 0 ≤ _)⟩)
    dsimp only [Pt.U, Pt.locs, Pt.cells, Pt.slots] at X92 l92 y92 z92 st92 hQ92
    subst l92 y92 z92
    obtain ⟨rfl, N92q, e92q⟩ := hQ92
    have N92 := Fr.app N85 N92q
    have ne_94 : b1 ≠ bs := by omega
    have ne_95 : b1 ≠ bx := by omega
    have ne_96 : b1 ≠ bg := by omega
    have ne_97 : b1 ≠ bf := by omega
    have ne_98 : b1 ≠ bh := by omega
    have ne_99 : b1 ≠ be := by omega
    have ne_100 : b1 ≠ bk := by omega
    have Va_101 : Arv Z T85.heap b1 k1 .int (1:Int32) [(.int (0:Int32))] (.int (0:Int32)) := (Va_80.keep K85q (ninS (Nat.ne_of_lt lt_b1_b39) (ninS ne_100 (ninS ne_99 (ninS ne_98 (ninS ne_97 (ninS ne_96 (ninS ne_95 (ninS ne_94 nin0)))))))))
    have ne_102 : b4 ≠ bs := by omega
    have ne_103 : b4 ≠ bx := by omega
    have ne_104 : b4 ≠ bg := by omega
    have ne_105 : b4 ≠ bf := by omega
    have ne_106 : b4 ≠ bh := by omega
    have ne_107 : b4 ≠ be := by omega
    have ne_108 : b4 ≠ bk := by omega
    have Va_109 : Arv Z T85.heap b4 k4 .int (2:Int32) [(.int (0:Int32)), (.int (0:Int32))] (.int (0:Int32)) := (Va_81.keep K85q (ninS (Nat.ne_of_lt lt_b4_b39) (ninS ne_108 (ninS ne_107 (ninS ne_106 (ninS ne_105 (ninS ne_104 (ninS ne_103 (ninS ne_102 nin0)))))))))
    have ne_110 : b8 ≠ bs := by omega
    have ne_111 : b8 ≠ bx := by omega
    have ne_112 : b8 ≠ bg := by omega
    have ne_113 : b8 ≠ bf := by omega
    have ne_114 : b8 ≠ bh := by omega
    have ne_115 : b8 ≠ be := by omega
    have ne_116 : b8 ≠ bk := by omega
    have Va_117 : Arv Z T85.heap b8 k8 .int (3:Int32) [(.int (0:Int32)), (.int (0:Int32)), (.int (0:Int32))] (.int (0:Int32)) := (Va_82.keep K85q (ninS (Nat.ne_of_lt lt_b8_b39) (ninS ne_116 (ninS ne_115 (ninS ne_114 (ninS ne_113 (ninS ne_112 (ninS ne_111 (ninS ne_110 nin0)))))))))
    have ne_118 : b13 ≠ bs := by omega
    have ne_119 : b13 ≠ bx := by omega
    have ne_120 : b13 ≠ bg := by omega
    have ne_121 : b13 ≠ bf := by omega
    have ne_122 : b13 ≠ bh := by omega
    have ne_123 : b13 ≠ be := by omega
    have ne_124 : b13 ≠ bk := by omega
    have Va_125 : Arv Z T85.heap b13 k13 .int (4:Int32) [(.int (0:Int32)), (.int (0:Int32)), (.int (0:Int32)), (.int (0:Int32))] (.int (0:Int32)) := (Va_83.keep K85q (ninS (Nat.ne_of_lt lt_b13_b39) (ninS ne_124 (ninS ne_123 (ninS ne_122 (ninS ne_121 (ninS ne_120 (ninS ne_119 (ninS ne_118 nin0)))))))))
    obtain ⟨cc1, kc1, hcc1, Vcc1, ltcc1⟩ := own_picked (own_l03 hl1) Va_101 Va_109 Va_117 Va_125 (show b1 < b4 by omega) (show b4 < b8 by omega) (show b8 < b13 by omega) (show b13 < b24 by omega)
    have pre126 : ∀ t, Steps p.tables e below (T92.setTop (mkF m 131 #[.val (.int p0), .val (.int p1), .val (.int p2), .val (.int p3), .val (.int p4), .val (.ref b1), .val (.ref b4), .val (.ref b8), .val (.ref b13), .val (.int (2:Int32)), .val (.int l0), .val (.int l1), .val (.int l2), .val (.int rr), .val (.ref b24), .val (.ref b39), .unset, .unset, .unset, .unset] [(.ref (own_pick l1 b1 b4 b8 b13)), (.ref b24), (.ref b39)])) t → Steps p.tables e below (s₁.setTop (entryFrame m #[(.int p0), (.int p1), (.int p2), (.int p3), (.int p4)] maxLocals)) t := fun t k => pre84 t (by
      show Steps p.tables e below (T78.setTop (mkF m 101 #[.val (.int p0), .val (.int p1), .val (.int p2), .val (.int p3), .val (.int p4), .val (.ref b1), .val (.ref b4), .val (.ref b8), .val (.ref b13), .val (.int (2:Int32)), .val (.int l0), .val (.int l1), .val (.int l2), .val (.int rr), .val (.ref b24), .val (.ref b39), .unset, .unset, .unset, .unset] [(.ref cc0), (.ref b24), (.ref b39)])) _
      refine XS.lconst X78.here hx rfl (hb hby at_101) ?_
      refine XS.lconst X78.here hx rfl (hb hby at_102) ?_
      refine XS.lconst X78.here hx rfl (hb hby at_103) ?_
      show Steps p.tables e below (T78.setTop (mkF m 104 #[.val (.int p0), .val (.int p1), .val (.int p2), .val (.int p3), .val (.int p4), .val (.ref b1), .val (.ref b4), .val (.ref b8), .val (.ref b13), .val (.int (2:Int32)), .val (.int l0), .val (.int l1), .val (.int l2), .val (.int rr), .val (.ref b24), .val (.ref b39), .unset, .unset, .unset, .unset] [(.long (0:Int64)), (.long (0:Int64)), (.long (0:Int64)), (.ref cc0), (.ref b24), (.ref b39)])) _
      refine st85.trans ?_
      show Steps p.tables e below (T85.setTop (mkF m 107 #[.val (.int p0), .val (.int p1), .val (.int p2), .val (.int p3), .val (.int p4), .val (.ref b1), .val (.ref b4), .val (.ref b8), .val (.ref b13), .val (.int (2:Int32)), .val (.int l0), .val (.int l1), .val (.int l2), .val (.int rr), .val (.ref b24), .val (.ref b39), .unset, .unset, .unset, .unset] [(.int (0:Int32))])) _
      refine XS.pop X85.here hx rfl (hb hby at_107) rfl rfl ?_
      refine XS.iload X85.here hx rfl (hb hby at_108) rfl ?_
      refine XS.iconst X85.here hx rfl (hb hby at_110) ?_
      refine XS.icmpNo X85.here hx rfl (hb hby at_111) rfl (tlt ((by decide) : (1:Int32) < (2:Int32))).2.2.2 ?_
      refine XS.aload X85.here hx rfl (hb hby at_114) rfl rfl ?_
      refine XS.aload X85.here hx rfl (hb hby at_116) rfl rfl ?_
      refine XS.iload X85.here hx rfl (hb hby at_118) rfl ?_
      refine XS.aload X85.here hx rfl (hb hby at_120) rfl rfl ?_
      refine XS.aload X85.here hx rfl (hb hby at_122) rfl rfl ?_
      refine XS.aload X85.here hx rfl (hb hby at_124) rfl rfl ?_
      refine XS.aload X85.here hx rfl (hb hby at_126) rfl rfl ?_
      show Steps p.tables e below (T85.setTop (mkF m 128 #[.val (.int p0), .val (.int p1), .val (.int p2), .val (.int p3), .val (.int p4), .val (.ref b1), .val (.ref b4), .val (.ref b8), .val (.ref b13), .val (.int (2:Int32)), .val (.int l0), .val (.int l1), .val (.int l2), .val (.int rr), .val (.ref b24), .val (.ref b39), .unset, .unset, .unset, .unset] [(.ref b13), (.ref b8), (.ref b4), (.ref b1), (.int l1), (.ref b24), (.ref b39)])) _
      refine st92 _ ?_
      exact k)
    rw [← hcc1] at pre126
    have Ee_128 : Exa Z T85.heap b39 "com/example/tavola/tavola/profile/RowBatch" := (Ee_86.keep K85q)
    have Ee_129 : Exa Z T85.heap b24 "com/example/tavola/tavola/profile/CsvReader" := (Ee_87.keep K85q)
    have ne_130 : b24 ≠ bs := by omega
    have ne_131 : b24 ≠ bx := by omega
    have ne_132 : b24 ≠ bg := by omega
    have ne_133 : b24 ≠ bf := by omega
    have ne_134 : b24 ≠ bh := by omega
    have ne_135 : b24 ≠ be := by omega
    have ne_136 : b24 ≠ bk := by omega
    have Ff_137 : Fld Z T85.heap b24 "com/example/tavola/tavola/profile/CsvReader" "ends" "[I" (.ref bn) := (Ff_88.keep K85q (ninS (Nat.ne_of_lt lt_b24_b39) (ninS ne_136 (ninS ne_135 (ninS ne_134 (ninS ne_133 (ninS ne_132 (ninS ne_131 (ninS ne_130 nin0)))))))))
    have ne_138 : bn ≠ bs := by omega
    have ne_139 : bn ≠ bx := by omega
    have ne_140 : bn ≠ bg := by omega
    have ne_141 : bn ≠ bf := by omega
    have ne_142 : bn ≠ bh := by omega
    have ne_143 : bn ≠ be := by omega
    have ne_144 : bn ≠ bk := by omega
    have Va_145 : Arv Z T85.heap bn kn .int (16:Int32) [] (.int (0:Int32)) := (Va_89.keep K85q (ninS (Nat.ne_of_lt lt_bn_b39) (ninS ne_144 (ninS ne_143 (ninS ne_142 (ninS ne_141 (ninS ne_140 (ninS ne_139 (ninS ne_138 nin0)))))))))
    have Ff_146 : Fld Z T85.heap b24 "com/example/tavola/tavola/profile/CsvReader" "record" "[B" (.ref br) := (Ff_90.keep K85q (ninS (Nat.ne_of_lt lt_b24_b39) (ninS ne_136 (ninS ne_135 (ninS ne_134 (ninS ne_133 (ninS ne_132 (ninS ne_131 (ninS ne_130 nin0)))))))))
    have ne_147 : br ≠ bs := by omega
    have ne_148 : br ≠ bx := by omega
    have ne_149 : br ≠ bg := by omega
    have ne_150 : br ≠ bf := by omega
    have ne_151 : br ≠ bh := by omega
    have ne_152 : br ≠ be := by omega
    have ne_153 : br ≠ bk := by omega
    have Aa_154 : own_Arf Z T85.heap br kr .byte (256:Int32) (.int (0:Int32)) := (own_arfK Aa_91 K85q (ninS (Nat.ne_of_lt lt_br_b39) (ninS ne_153 (ninS ne_152 (ninS ne_151 (ninS ne_150 (ninS ne_149 (ninS ne_148 (ninS ne_147 nin0)))))))))
    obtain ⟨cq127, kq127, q127a, q127b, q127c⟩ := isOf hZ e92q (Ee_128)
    obtain ⟨_, _, ⟨T127, L127, k127, n127⟩, -, X127, ⟨Lc127, hQ127, l127, y127, z127⟩, st127⟩ := X92.virtualBack hx (y := (⟨"com/example/tavola/tavola/profile/RowBatch", "add", "(Lcom/example/tavola/tavola/profile/CsvReader;[IJJJ)I"⟩ : MethodName)) (z := (⟨"com/example/tavola/tavola/profile/RowBatch", "add", "(Lcom/example/tavola/tavola/profile/CsvReader;[IJJJ)I"⟩ : MethodName)) hown (mvT hZ (hw _ (oG (i := 60) rfl))) (mvT hZ (hw _ (oG (i := 61) rfl))) (notFace_of_selects (args := #[]) (mvT hZ (hw _ (oG (i := 63) rfl)))) (mvT hZ (hw _ (oG (i := 63) rfl))) (mvT hZ (hw _ (oG (i := 62) rfl))) (by decide) (backOf (W := 0) (rm6_1 l Z aw hw [] b39 b24 cc1 (0:Int64) (0:Int64) (0:Int64) bn br bk be bh bf bg bx bs kn kr kc1 kk ke kh kf kg kx ks (l1 + (1:Int32)) sc ((0:Int32) + ((own_kl (l0 + (1:Int32))).toInt32)) ((0:Int32) + ((own_kl (l0 + (1:Int32))).toInt32)) (0:Int32) (0:Int32) T85.heap n0 Zz_93 Ee_128 Ee_129 Ff_137 Va_145 Ff_146 Aa_154 Vcc1 Fi0_85 Fi1_85 Fi2_85 Fa0_85 Fa1_85 Fa2_85 Fa3_85 Fa4_85 Fa5_85 Fa6_85 Va0_85 Va1_85 Va2_85 Va3_85 Va4_85 Va5_85 Va6_85 (by omega) (by omega) (by omega) (by omega) (by omega) (by omega) (by omega) (by omega) (by omega) (by omega) (by omega) g_b39 g_bk g_be g_bh g_bf g_bg g_bx g_bs (own_hL (own_l03 hl1)) hsc (own_s1 hl0).1 (own_s1 hl0).2) hZ (hw _ (oG (i := 64) rfl)) (hw _ (oG (i := 28) rfl)) (by decide) (by decide)) q127a q127c (g := (mkF m 134 #[.val (.int p0), .val (.int p1), .val (.int p2), .val (.int p3), .val (.int p4), .val (.ref b1), .val (.ref b4), .val (.ref b8), .val (.ref b13), .val (.int (2:Int32)), .val (.int l0), .val (.int l1), .val (.int l2), .val (.int rr), .val (.ref b24), .val (.ref b39), .unset, .unset, .unset, .unset] [(.long (0:Int64)), (.long (0:Int64)), (.long (0:Int64)), (.ref cc1), (.ref b24), (.ref b39)])) rfl (by rw [hml]; rfl) (Steps.refl _) (argsL := [(.ref b24), (.ref cc1), (.long (0:Int64)), (.long (0:Int64)), (.long (0:Int64))]) (rest := []) (lenOf pd_rm0_4 rfl) rfl (by show 2 * 0 + _ ≤ _; exact Nat.le_of_eq rfl) (hb hby at_134) (fun _ _ => ⟨rfl, e92q, (by decide : 17 + 0 ≤ _), (by decide : 139585 + 0 ≤ _)⟩)
    dsimp only [Pt.U, Pt.locs, Pt.cells, Pt.slots] at X127 l127 y127 z127 st127 hQ127
    subst l127 y127 z127
    obtain ⟨rfl, N127q, K127q, Fi0_127, Fi1_127, Fi2_127, Fa0_127, Fa1_127, Fa2_127, Fa3_127, Fa4_127, Fa5_127, Fa6_127, Va0_127, Va1_127, Va2_127, Va3_127, Va4_127, Va5_127, Va6_127⟩ := hQ127
    have N127 := Fr.app N92 N127q
    have pre155 : ∀ t, Steps p.tables e below (T127.setTop (mkF m 168 #[.val (.int p0), .val (.int p1), .val (.int p2), .val (.int p3), .val (.int p4), .val (.ref b1), .val (.ref b4), .val (.ref b8), .val (.ref b13), .val (.int (2:Int32)), .val (.int l0), .val (.int l1), .val (.int l2), .val (.int rr), .val (.ref b24), .val (.ref b39), .unset, .unset, .unset, .unset] [])) t → Steps p.tables e below (s₁.setTop (entryFrame m #[(.int p0), (.int p1), (.int p2), (.int p3), (.int p4)] maxLocals)) t := fun t k => pre126 t (by
      show Steps p.tables e below (T92.setTop (mkF m 131 #[.val (.int p0), .val (.int p1), .val (.int p2), .val (.int p3), .val (.int p4), .val (.ref b1), .val (.ref b4), .val (.ref b8), .val (.ref b13), .val (.int (2:Int32)), .val (.int l0), .val (.int l1), .val (.int l2), .val (.int rr), .val (.ref b24), .val (.ref b39), .unset, .unset, .unset, .unset] [(.ref cc1), (.ref b24), (.ref b39)])) _
      refine XS.lconst X92.here hx rfl (hb hby at_131) ?_
      refine XS.lconst X92.here hx rfl (hb hby at_132) ?_
      refine XS.lconst X92.here hx rfl (hb hby at_133) ?_
      show Steps p.tables e below (T92.setTop (mkF m 134 #[.val (.int p0), .val (.int p1), .val (.int p2), .val (.int p3), .val (.int p4), .val (.ref b1), .val (.ref b4), .val (.ref b8), .val (.ref b13), .val (.int (2:Int32)), .val (.int l0), .val (.int l1), .val (.int l2), .val (.int rr), .val (.ref b24), .val (.ref b39), .unset, .unset, .unset, .unset] [(.long (0:Int64)), (.long (0:Int64)), (.long (0:Int64)), (.ref cc1), (.ref b24), (.ref b39)])) _
      refine st127.trans ?_
      show Steps p.tables e below (T127.setTop (mkF m 137 #[.val (.int p0), .val (.int p1), .val (.int p2), .val (.int p3), .val (.int p4), .val (.ref b1), .val (.ref b4), .val (.ref b8), .val (.ref b13), .val (.int (2:Int32)), .val (.int l0), .val (.int l1), .val (.int l2), .val (.int rr), .val (.ref b24), .val (.ref b39), .unset, .unset, .unset, .unset] [(.int (1:Int32))])) _
      refine XS.pop X127.here hx rfl (hb hby at_137) rfl rfl ?_
      refine XS.iload X127.here hx rfl (hb hby at_138) rfl ?_
      refine XS.iconst X127.here hx rfl (hb hby at_140) ?_
      refine XS.icmpYes X127.here hx rfl (pc0 := 141) (pc' := 168) rfl (hb hby at_141) rfl (flt ((by decide) : ¬ ((2:Int32) < (2:Int32)))).2.2.2 (by decide) (by decide) ?_
      exact k)
    rcases own_rr2 hrr with rfl | rfl | rfl
    · have Zz_157 : n0 ≤ T127.heap.size := (Nat.le_trans Zz_93 K127q.1)
      have Ee_158 : Exa Z T127.heap b39 "com/example/tavola/tavola/profile/RowBatch" := (Ee_128.keep K127q)
      obtain ⟨cq156, kq156, q156a, q156b, q156c⟩ := isOf hZ rfl (Ee_158)
      obtain ⟨_, _, ⟨T156, L156, k156, n156⟩, -, X156, ⟨Lc156, hQ156, l156, y156, z156⟩, st156⟩ := X127.virtualBack hx (y := (⟨"com/example/tavola/tavola/profile/RowBatch", "keyStart", "(I)I"⟩ : MethodName)) (z := (⟨"com/example/tavola/tavola/profile/RowBatch", "keyStart", "(I)I"⟩ : MethodName)) hown (mvT hZ (hw _ (oG (i := 51) rfl))) (mvT hZ (hw _ (oG (i := 52) rfl))) (notFace_of_selects (args := #[]) (mvT hZ (hw _ (oG (i := 54) rfl)))) (mvT hZ (hw _ (oG (i := 54) rfl))) (mvT hZ (hw _ (oG (i := 53) rfl))) (by decide) (backOf (W := 0) (rm4_0 l Z aw hw [] b39 be ke ((0:Int32) + ((own_kl (l0 + (1:Int32))).toInt32)) (((0:Int32) + ((own_kl (l0 + (1:Int32))).toInt32)) + ((own_kl (l1 + (1:Int32))).toInt32)) (0:Int32) T127.heap n0 Zz_157 Fa1_127 Va1_127) hZ (hw _ (oG (i := 55) rfl)) (hw _ (oG (i := 28) rfl)) (by decide) (by decide)) q156a q156c (g := (mkF m 241 #[.val (.int p0), .val (.int p1), .val (.int p2), .val (.int p3), .val (.int p4), .val (.ref b1), .val (.ref b4), .val (.ref b8), .val (.ref b13), .val (.int (2:Int32)), .val (.int l0), .val (.int l1), .val (.int l2), .val (.int (0:Int32)), .val (.ref b24), .val (.ref b39), .val (.int (0:Int32)), .val (.int l0), .unset, .unset] [(.int (0:Int32)), (.ref b39)])) rfl (by rw [hml]; rfl) (Steps.refl _) (argsL := [(.int (0:Int32))]) (rest := []) (lenOf pd_rm0_2 rfl) rfl (by show 2 * 0 + _ ≤ _; exact Nat.le_of_eq rfl) (hb hby at_241) (fun _ _ => ⟨rfl, rfl, (by decide : 17 + 0 ≤ _), (by decide : 139585 + 0 ≤ _)⟩)
      dsimp only [Pt.U, Pt.locs, Pt.cells, Pt.slots] at X156 l156 y156 z156 st156 hQ156
      subst l156 y156 z156
      obtain ⟨rfl, N156q, e156q⟩ := hQ156
      have N156 := Fr.app N127 N156q
      obtain ⟨cq159, kq159, q159a, q159b, q159c⟩ := isOf hZ e156q (Ee_158)
      obtain ⟨_, _, ⟨T159, L159, k159, n159⟩, -, X159, ⟨Lc159, hQ159, l159, y159, z159⟩, st159⟩ := X156.virtualBack hx (y := (⟨"com/example/tavola/tavola/profile/RowBatch", "keyEnd", "(I)I"⟩ : MethodName)) (z := (⟨"com/example/tavola/tavola/profile/RowBatch", "keyEnd", "(I)I"⟩ : MethodName)) hown (mvT hZ (hw _ (oG (i := 99) rfl))) (mvT hZ (hw _ (oG (i := 100) rfl))) (notFace_of_selects (args := #[]) (mvT hZ (hw _ (oG (i := 102) rfl)))) (mvT hZ (hw _ (oG (i := 102) rfl))) (mvT hZ (hw _ (oG (i := 101) rfl))) (by decide) (backOf (W := 0) (rm13_0 l Z aw hw [] b39 be ke ((0:Int32) + ((own_kl (l0 + (1:Int32))).toInt32)) (((0:Int32) + ((own_kl (l0 + (1:Int32))).toInt32)) + ((own_kl (l1 + (1:Int32))).toInt32)) (0:Int32) T127.heap n0 Zz_157 Fa1_127 Va1_127) hZ (hw _ (oG (i := 103) rfl)) (hw _ (oG (i := 28) rfl)) (by decide) (by decide)) q159a q159c (g := (mkF m 276 #[.val (.int p0), .val (.int p1), .val (.int p2), .val (.int p3), .val (.int p4), .val (.ref b1), .val (.ref b4), .val (.ref b8), .val (.ref b13), .val (.int (2:Int32)), .val (.int l0), .val (.int l1), .val (.int l2), .val (.int (0:Int32)), .val (.ref b24), .val (.ref b39), .val (.int (0:Int32)), .val (.int l0), .val (.int (0:Int32)), .val (.int (1:Int32))] [(.int (0:Int32)), (.ref b39)])) rfl (by rw [hml]; rfl) (Steps.refl _) (argsL := [(.int (0:Int32))]) (rest := []) (lenOf pd_rm0_2 rfl) rfl (by show 2 * 0 + _ ≤ _; exact Nat.le_of_eq rfl) (hb hby at_276) (fun _ _ => ⟨rfl, e156q, (by decide : 17 + 0 ≤ _), (by decide : 139585 + 0 ≤ _)⟩)
      dsimp only [Pt.U, Pt.locs, Pt.cells, Pt.slots] at X159 l159 y159 z159 st159 hQ159
      subst l159 y159 z159
      obtain ⟨rfl, N159q, e159q⟩ := hQ159
      have N159 := Fr.app N156 N159q
      obtain ⟨fs, hr, hrun, hended, hW, hsame⟩ := X159.leave (v := some (.int (1:Int32))) (fun h => by rw [Bd.returns] at h; cases h)
      refine ⟨_, _, pre155 _ ?_, hrun, hended, _, _, rfl, ?_, ⟨_, rfl⟩, hW, hsame.mono (by decide) (by decide)⟩
      · show Steps p.tables e below (T127.setTop (mkF m 168 #[.val (.int p0), .val (.int p1), .val (.int p2), .val (.int p3), .val (.int p4), .val (.ref b1), .val (.ref b4), .val (.ref b8), .val (.ref b13), .val (.int (2:Int32)), .val (.int l0), .val (.int l1), .val (.int l2), .val (.int (0:Int32)), .val (.ref b24), .val (.ref b39), .unset, .unset, .unset, .unset] [])) _
        refine XS.iload X127.here hx rfl (hb hby at_168) rfl ?_
        refine XS.ifNo X127.here hx rfl (hb hby at_170) rfl ((if0 _ _).trans (teq (rfl : (0:Int32) = (0:Int32))).2) ?_
        refine XS.iconst X127.here hx rfl (hb hby at_173) ?_
        refine XS.goto X127.here hx rfl (pc0 := 174) (pc' := 210) rfl (hb hby at_174) (by decide) (by decide) ?_
        refine XS.istore X127.here hx rfl (hb hby at_210) rfl (l' := #[.val (.int p0), .val (.int p1), .val (.int p2), .val (.int p3), .val (.int p4), .val (.ref b1), .val (.ref b4), .val (.ref b8), .val (.ref b13), .val (.int (2:Int32)), .val (.int l0), .val (.int l1), .val (.int l2), .val (.int (0:Int32)), .val (.ref b24), .val (.ref b39), .val (.int (0:Int32)), .unset, .unset, .unset]) rfl ?_
        refine XS.iload X127.here hx rfl (hb hby at_212) rfl ?_
        refine XS.ifNo X127.here hx rfl (hb hby at_214) rfl ((if0 _ _).trans (teq (rfl : (0:Int32) = (0:Int32))).2) ?_
        refine XS.iload X127.here hx rfl (hb hby at_217) rfl ?_
        refine XS.goto X127.here hx rfl (pc0 := 219) (pc' := 235) rfl (hb hby at_219) (by decide) (by decide) ?_
        refine XS.istore X127.here hx rfl (hb hby at_235) rfl (l' := #[.val (.int p0), .val (.int p1), .val (.int p2), .val (.int p3), .val (.int p4), .val (.ref b1), .val (.ref b4), .val (.ref b8), .val (.ref b13), .val (.int (2:Int32)), .val (.int l0), .val (.int l1), .val (.int l2), .val (.int (0:Int32)), .val (.ref b24), .val (.ref b39), .val (.int (0:Int32)), .val (.int l0), .unset, .unset]) rfl ?_
        refine XS.aload X127.here hx rfl (hb hby at_237) rfl rfl ?_
        refine XS.iload X127.here hx rfl (hb hby at_239) rfl ?_
        show Steps p.tables e below (T127.setTop (mkF m 241 #[.val (.int p0), .val (.int p1), .val (.int p2), .val (.int p3), .val (.int p4), .val (.ref b1), .val (.ref b4), .val (.ref b8), .val (.ref b13), .val (.int (2:Int32)), .val (.int l0), .val (.int l1), .val (.int l2), .val (.int (0:Int32)), .val (.ref b24), .val (.ref b39), .val (.int (0:Int32)), .val (.int l0), .unset, .unset] [(.int (0:Int32)), (.ref b39)])) _
        refine st156.trans ?_
        show Steps p.tables e below (T156.setTop (mkF m 244 #[.val (.int p0), .val (.int p1), .val (.int p2), .val (.int p3), .val (.int p4), .val (.ref b1), .val (.ref b4), .val (.ref b8), .val (.ref b13), .val (.int (2:Int32)), .val (.int l0), .val (.int l1), .val (.int l2), .val (.int (0:Int32)), .val (.ref b24), .val (.ref b39), .val (.int (0:Int32)), .val (.int l0), .unset, .unset] [(.int (0:Int32))])) _
        refine XS.istore X156.here hx rfl (hb hby at_244) rfl (l' := #[.val (.int p0), .val (.int p1), .val (.int p2), .val (.int p3), .val (.int p4), .val (.ref b1), .val (.ref b4), .val (.ref b8), .val (.ref b13), .val (.int (2:Int32)), .val (.int l0), .val (.int l1), .val (.int l2), .val (.int (0:Int32)), .val (.ref b24), .val (.ref b39), .val (.int (0:Int32)), .val (.int l0), .val (.int (0:Int32)), .unset]) rfl ?_
        refine XS.iload X156.here hx rfl (hb hby at_246) rfl ?_
        refine XS.iload X156.here hx rfl (hb hby at_248) rfl ?_
        refine XS.icmpNo X156.here hx rfl (hb hby at_250) rfl (teq ((by decide) : (0:Int32) = (0:Int32))).2 ?_
        refine XS.iconst X156.here hx rfl (hb hby at_253) ?_
        refine XS.goto X156.here hx rfl (pc0 := 254) (pc' := 258) rfl (hb hby at_254) (by decide) (by decide) ?_
        refine XS.istore X156.here hx rfl (hb hby at_258) rfl (l' := #[.val (.int p0), .val (.int p1), .val (.int p2), .val (.int p3), .val (.int p4), .val (.ref b1), .val (.ref b4), .val (.ref b8), .val (.ref b13), .val (.int (2:Int32)), .val (.int l0), .val (.int l1), .val (.int l2), .val (.int (0:Int32)), .val (.ref b24), .val (.ref b39), .val (.int (0:Int32)), .val (.int l0), .val (.int (0:Int32)), .val (.int (1:Int32))]) rfl ?_
        refine XS.iload X156.here hx rfl (hb hby at_260) rfl ?_
        refine XS.iload X156.here hx rfl (hb hby at_262) rfl ?_
        refine XS.icmpNo X156.here hx rfl (hb hby at_264) rfl (tlt ((by decide) : (0:Int32) < (2:Int32))).2.1 ?_
        refine XS.iload X156.here hx rfl (hb hby at_267) rfl ?_
        refine XS.ifNo X156.here hx rfl (hb hby at_269) rfl ((if0 _ _).trans (feq ((by decide) : ¬ ((1:Int32) = (0:Int32)))).1) ?_
        refine XS.aload X156.here hx rfl (hb hby at_272) rfl rfl ?_
        refine XS.iload X156.here hx rfl (hb hby at_274) rfl ?_
        show Steps p.tables e below (T156.setTop (mkF m 276 #[.val (.int p0), .val (.int p1), .val (.int p2), .val (.int p3), .val (.int p4), .val (.ref b1), .val (.ref b4), .val (.ref b8), .val (.ref b13), .val (.int (2:Int32)), .val (.int l0), .val (.int l1), .val (.int l2), .val (.int (0:Int32)), .val (.ref b24), .val (.ref b39), .val (.int (0:Int32)), .val (.int l0), .val (.int (0:Int32)), .val (.int (1:Int32))] [(.int (0:Int32)), (.ref b39)])) _
        refine st159.trans ?_
        show Steps p.tables e below (T159.setTop (mkF m 279 #[.val (.int p0), .val (.int p1), .val (.int p2), .val (.int p3), .val (.int p4), .val (.ref b1), .val (.ref b4), .val (.ref b8), .val (.ref b13), .val (.int (2:Int32)), .val (.int l0), .val (.int l1), .val (.int l2), .val (.int (0:Int32)), .val (.ref b24), .val (.ref b39), .val (.int (0:Int32)), .val (.int l0), .val (.int (0:Int32)), .val (.int (1:Int32))] [(.int ((0:Int32) + ((own_kl (l0 + (1:Int32))).toInt32)))])) _
        refine XS.iload X159.here hx rfl (hb hby at_279) rfl ?_
        refine XS.isub X159.here hx rfl (hb hby at_281) rfl ?_
        refine XS.iload X159.here hx rfl (hb hby at_282) rfl ?_
        refine XS.icmpNo X159.here hx rfl (hb hby at_284) rfl (teq ((own_fin1 (fun l0 => (((0:Int32) + ((own_kl (l0 + (1:Int32))).toInt32)) - (0:Int32)) = l0) (by decide) (own_l03 hl0)) : (((0:Int32) + ((own_kl (l0 + (1:Int32))).toInt32)) - (0:Int32)) = l0)).2 ?_
        refine XS.iconst X159.here hx rfl (hb hby at_287) ?_
        refine XS.goto X159.here hx rfl (pc0 := 288) (pc' := 292) rfl (hb hby at_288) (by decide) (by decide) ?_
        refine XS.istore X159.here hx rfl (hb hby at_292) rfl (l' := #[.val (.int p0), .val (.int p1), .val (.int p2), .val (.int p3), .val (.int p4), .val (.ref b1), .val (.ref b4), .val (.ref b8), .val (.ref b13), .val (.int (2:Int32)), .val (.int l0), .val (.int l1), .val (.int l2), .val (.int (0:Int32)), .val (.ref b24), .val (.ref b39), .val (.int (0:Int32)), .val (.int l0), .val (.int (0:Int32)), .val (.int (1:Int32))]) rfl ?_
        refine XS.iload X159.here hx rfl (hb hby at_294) rfl ?_
        show Steps p.tables e below (T159.setTop (mkF m 296 #[.val (.int p0), .val (.int p1), .val (.int p2), .val (.int p3), .val (.int p4), .val (.ref b1), .val (.ref b4), .val (.ref b8), .val (.ref b13), .val (.int (2:Int32)), .val (.int l0), .val (.int l1), .val (.int l2), .val (.int (0:Int32)), .val (.ref b24), .val (.ref b39), .val (.int (0:Int32)), .val (.int l0), .val (.int (0:Int32)), .val (.int (1:Int32))] [(.int (1:Int32))])) _
        exact retN X159 hx (t := .boolean) Bd.returns (by simp) (hb hby at_296) hr
      · show rm0Q Z p0 p1 p2 p3 p4 h0 n0 _ T159.heap _
        rw [e159q]
        exact ⟨rfl, N159⟩
    · have Zz_161 : n0 ≤ T127.heap.size := (Nat.le_trans Zz_93 K127q.1)
      have Ee_162 : Exa Z T127.heap b39 "com/example/tavola/tavola/profile/RowBatch" := (Ee_128.keep K127q)
      obtain ⟨cq160, kq160, q160a, q160b, q160c⟩ := isOf hZ rfl (Ee_162)
      obtain ⟨_, _, ⟨T160, L160, k160, n160⟩, -, X160, ⟨Lc160, hQ160, l160, y160, z160⟩, st160⟩ := X127.virtualBack hx (y := (⟨"com/example/tavola/tavola/profile/RowBatch", "keyStart", "(I)I"⟩ : MethodName)) (z := (⟨"com/example/tavola/tavola/profile/RowBatch", "keyStart", "(I)I"⟩ : MethodName)) hown (mvT hZ (hw _ (oG (i := 51) rfl))) (mvT hZ (hw _ (oG (i := 52) rfl))) (notFace_of_selects (args := #[]) (mvT hZ (hw _ (oG (i := 54) rfl)))) (mvT hZ (hw _ (oG (i := 54) rfl))) (mvT hZ (hw _ (oG (i := 53) rfl))) (by decide) (backOf (W := 0) (rm4_1 l Z aw hw [] b39 be ke ((0:Int32) + ((own_kl (l0 + (1:Int32))).toInt32)) (((0:Int32) + ((own_kl (l0 + (1:Int32))).toInt32)) + ((own_kl (l1 + (1:Int32))).toInt32)) (0:Int32) T127.heap n0 Zz_161 Fa1_127 Va1_127) hZ (hw _ (oG (i := 55) rfl)) (hw _ (oG (i := 28) rfl)) (by decide) (by decide)) q160a q160c (g := (mkF m 241 #[.val (.int p0), .val (.int p1), .val (.int p2), .val (.int p3), .val (.int p4), .val (.ref b1), .val (.ref b4), .val (.ref b8), .val (.ref b13), .val (.int (2:Int32)), .val (.int l0), .val (.int l1), .val (.int l2), .val (.int (1:Int32)), .val (.ref b24), .val (.ref b39), .val (.int l0), .val (.int l1), .unset, .unset] [(.int (1:Int32)), (.ref b39)])) rfl (by rw [hml]; rfl) (Steps.refl _) (argsL := [(.int (1:Int32))]) (rest := []) (lenOf pd_rm0_2 rfl) rfl (by show 2 * 0 + _ ≤ _; exact Nat.le_of_eq rfl) (hb hby at_241) (fun _ _ => ⟨rfl, rfl, (by decide : 17 + 0 ≤ _), (by decide : 139585 + 0 ≤ _)⟩)
      dsimp only [Pt.U, Pt.locs, Pt.cells, Pt.slots] at X160 l160 y160 z160 st160 hQ160
      subst l160 y160 z160
      obtain ⟨rfl, N160q, e160q⟩ := hQ160
      have N160 := Fr.app N127 N160q
      obtain ⟨cq163, kq163, q163a, q163b, q163c⟩ := isOf hZ e160q (Ee_162)
      obtain ⟨_, _, ⟨T163, L163, k163, n163⟩, -, X163, ⟨Lc163, hQ163, l163, y163, z163⟩, st163⟩ := X160.virtualBack hx (y := (⟨"com/example/tavola/tavola/profile/RowBatch", "keyEnd", "(I)I"⟩ : MethodName)) (z := (⟨"com/example/tavola/tavola/profile/RowBatch", "keyEnd", "(I)I"⟩ : MethodName)) hown (mvT hZ (hw _ (oG (i := 99) rfl))) (mvT hZ (hw _ (oG (i := 100) rfl))) (notFace_of_selects (args := #[]) (mvT hZ (hw _ (oG (i := 102) rfl)))) (mvT hZ (hw _ (oG (i := 102) rfl))) (mvT hZ (hw _ (oG (i := 101) rfl))) (by decide) (backOf (W := 0) (rm13_1 l Z aw hw [] b39 be ke ((0:Int32) + ((own_kl (l0 + (1:Int32))).toInt32)) (((0:Int32) + ((own_kl (l0 + (1:Int32))).toInt32)) + ((own_kl (l1 + (1:Int32))).toInt32)) (0:Int32) T127.heap n0 Zz_161 Fa1_127 Va1_127) hZ (hw _ (oG (i := 103) rfl)) (hw _ (oG (i := 28) rfl)) (by decide) (by decide)) q163a q163c (g := (mkF m 276 #[.val (.int p0), .val (.int p1), .val (.int p2), .val (.int p3), .val (.int p4), .val (.ref b1), .val (.ref b4), .val (.ref b8), .val (.ref b13), .val (.int (2:Int32)), .val (.int l0), .val (.int l1), .val (.int l2), .val (.int (1:Int32)), .val (.ref b24), .val (.ref b39), .val (.int l0), .val (.int l1), .val (.int ((0:Int32) + ((own_kl (l0 + (1:Int32))).toInt32))), .val (.int (1:Int32))] [(.int (1:Int32)), (.ref b39)])) rfl (by rw [hml]; rfl) (Steps.refl _) (argsL := [(.int (1:Int32))]) (rest := []) (lenOf pd_rm0_2 rfl) rfl (by show 2 * 0 + _ ≤ _; exact Nat.le_of_eq rfl) (hb hby at_276) (fun _ _ => ⟨rfl, e160q, (by decide : 17 + 0 ≤ _), (by decide : 139585 + 0 ≤ _)⟩)
      dsimp only [Pt.U, Pt.locs, Pt.cells, Pt.slots] at X163 l163 y163 z163 st163 hQ163
      subst l163 y163 z163
      obtain ⟨rfl, N163q, e163q⟩ := hQ163
      have N163 := Fr.app N160 N163q
      obtain ⟨fs, hr, hrun, hended, hW, hsame⟩ := X163.leave (v := some (.int (1:Int32))) (fun h => by rw [Bd.returns] at h; cases h)
      refine ⟨_, _, pre155 _ ?_, hrun, hended, _, _, rfl, ?_, ⟨_, rfl⟩, hW, hsame.mono (by decide) (by decide)⟩
      · show Steps p.tables e below (T127.setTop (mkF m 168 #[.val (.int p0), .val (.int p1), .val (.int p2), .val (.int p3), .val (.int p4), .val (.ref b1), .val (.ref b4), .val (.ref b8), .val (.ref b13), .val (.int (2:Int32)), .val (.int l0), .val (.int l1), .val (.int l2), .val (.int (1:Int32)), .val (.ref b24), .val (.ref b39), .unset, .unset, .unset, .unset] [])) _
        refine XS.iload X127.here hx rfl (hb hby at_168) rfl ?_
        refine XS.ifYes X127.here hx rfl (pc0 := 170) (pc' := 177) rfl (hb hby at_170) rfl ((if0 _ _).trans (feq ((by decide) : ¬ ((1:Int32) = (0:Int32)))).2) (by decide) (by decide) ?_
        refine XS.iload X127.here hx rfl (hb hby at_177) rfl ?_
        refine XS.iconst X127.here hx rfl (hb hby at_179) ?_
        refine XS.icmpNo X127.here hx rfl (hb hby at_180) rfl (teq (rfl : (1:Int32) = (1:Int32))).2 ?_
        refine XS.iload X127.here hx rfl (hb hby at_183) rfl ?_
        refine XS.goto X127.here hx rfl (pc0 := 185) (pc' := 210) rfl (hb hby at_185) (by decide) (by decide) ?_
        refine XS.istore X127.here hx rfl (hb hby at_210) rfl (l' := #[.val (.int p0), .val (.int p1), .val (.int p2), .val (.int p3), .val (.int p4), .val (.ref b1), .val (.ref b4), .val (.ref b8), .val (.ref b13), .val (.int (2:Int32)), .val (.int l0), .val (.int l1), .val (.int l2), .val (.int (1:Int32)), .val (.ref b24), .val (.ref b39), .val (.int l0), .unset, .unset, .unset]) rfl ?_
        refine XS.iload X127.here hx rfl (hb hby at_212) rfl ?_
        refine XS.ifYes X127.here hx rfl (pc0 := 214) (pc' := 222) rfl (hb hby at_214) rfl ((if0 _ _).trans (feq ((by decide) : ¬ ((1:Int32) = (0:Int32)))).2) (by decide) (by decide) ?_
        refine XS.iload X127.here hx rfl (hb hby at_222) rfl ?_
        refine XS.iconst X127.here hx rfl (hb hby at_224) ?_
        refine XS.icmpNo X127.here hx rfl (hb hby at_225) rfl (teq (rfl : (1:Int32) = (1:Int32))).2 ?_
        refine XS.iload X127.here hx rfl (hb hby at_228) rfl ?_
        refine XS.goto X127.here hx rfl (pc0 := 230) (pc' := 235) rfl (hb hby at_230) (by decide) (by decide) ?_
        refine XS.istore X127.here hx rfl (hb hby at_235) rfl (l' := #[.val (.int p0), .val (.int p1), .val (.int p2), .val (.int p3), .val (.int p4), .val (.ref b1), .val (.ref b4), .val (.ref b8), .val (.ref b13), .val (.int (2:Int32)), .val (.int l0), .val (.int l1), .val (.int l2), .val (.int (1:Int32)), .val (.ref b24), .val (.ref b39), .val (.int l0), .val (.int l1), .unset, .unset]) rfl ?_
        refine XS.aload X127.here hx rfl (hb hby at_237) rfl rfl ?_
        refine XS.iload X127.here hx rfl (hb hby at_239) rfl ?_
        show Steps p.tables e below (T127.setTop (mkF m 241 #[.val (.int p0), .val (.int p1), .val (.int p2), .val (.int p3), .val (.int p4), .val (.ref b1), .val (.ref b4), .val (.ref b8), .val (.ref b13), .val (.int (2:Int32)), .val (.int l0), .val (.int l1), .val (.int l2), .val (.int (1:Int32)), .val (.ref b24), .val (.ref b39), .val (.int l0), .val (.int l1), .unset, .unset] [(.int (1:Int32)), (.ref b39)])) _
        refine st160.trans ?_
        show Steps p.tables e below (T160.setTop (mkF m 244 #[.val (.int p0), .val (.int p1), .val (.int p2), .val (.int p3), .val (.int p4), .val (.ref b1), .val (.ref b4), .val (.ref b8), .val (.ref b13), .val (.int (2:Int32)), .val (.int l0), .val (.int l1), .val (.int l2), .val (.int (1:Int32)), .val (.ref b24), .val (.ref b39), .val (.int l0), .val (.int l1), .unset, .unset] [(.int ((0:Int32) + ((own_kl (l0 + (1:Int32))).toInt32)))])) _
        refine XS.istore X160.here hx rfl (hb hby at_244) rfl (l' := #[.val (.int p0), .val (.int p1), .val (.int p2), .val (.int p3), .val (.int p4), .val (.ref b1), .val (.ref b4), .val (.ref b8), .val (.ref b13), .val (.int (2:Int32)), .val (.int l0), .val (.int l1), .val (.int l2), .val (.int (1:Int32)), .val (.ref b24), .val (.ref b39), .val (.int l0), .val (.int l1), .val (.int ((0:Int32) + ((own_kl (l0 + (1:Int32))).toInt32))), .unset]) rfl ?_
        refine XS.iload X160.here hx rfl (hb hby at_246) rfl ?_
        refine XS.iload X160.here hx rfl (hb hby at_248) rfl ?_
        refine XS.icmpNo X160.here hx rfl (hb hby at_250) rfl (teq ((own_fin1 (fun l0 => ((0:Int32) + ((own_kl (l0 + (1:Int32))).toInt32)) = l0) (by decide) (own_l03 hl0)) : ((0:Int32) + ((own_kl (l0 + (1:Int32))).toInt32)) = l0)).2 ?_
        refine XS.iconst X160.here hx rfl (hb hby at_253) ?_
        refine XS.goto X160.here hx rfl (pc0 := 254) (pc' := 258) rfl (hb hby at_254) (by decide) (by decide) ?_
        refine XS.istore X160.here hx rfl (hb hby at_258) rfl (l' := #[.val (.int p0), .val (.int p1), .val (.int p2), .val (.int p3), .val (.int p4), .val (.ref b1), .val (.ref b4), .val (.ref b8), .val (.ref b13), .val (.int (2:Int32)), .val (.int l0), .val (.int l1), .val (.int l2), .val (.int (1:Int32)), .val (.ref b24), .val (.ref b39), .val (.int l0), .val (.int l1), .val (.int ((0:Int32) + ((own_kl (l0 + (1:Int32))).toInt32))), .val (.int (1:Int32))]) rfl ?_
        refine XS.iload X160.here hx rfl (hb hby at_260) rfl ?_
        refine XS.iload X160.here hx rfl (hb hby at_262) rfl ?_
        refine XS.icmpNo X160.here hx rfl (hb hby at_264) rfl (tlt ((by decide) : (1:Int32) < (2:Int32))).2.1 ?_
        refine XS.iload X160.here hx rfl (hb hby at_267) rfl ?_
        refine XS.ifNo X160.here hx rfl (hb hby at_269) rfl ((if0 _ _).trans (feq ((by decide) : ¬ ((1:Int32) = (0:Int32)))).1) ?_
        refine XS.aload X160.here hx rfl (hb hby at_272) rfl rfl ?_
        refine XS.iload X160.here hx rfl (hb hby at_274) rfl ?_
        show Steps p.tables e below (T160.setTop (mkF m 276 #[.val (.int p0), .val (.int p1), .val (.int p2), .val (.int p3), .val (.int p4), .val (.ref b1), .val (.ref b4), .val (.ref b8), .val (.ref b13), .val (.int (2:Int32)), .val (.int l0), .val (.int l1), .val (.int l2), .val (.int (1:Int32)), .val (.ref b24), .val (.ref b39), .val (.int l0), .val (.int l1), .val (.int ((0:Int32) + ((own_kl (l0 + (1:Int32))).toInt32))), .val (.int (1:Int32))] [(.int (1:Int32)), (.ref b39)])) _
        refine st163.trans ?_
        show Steps p.tables e below (T163.setTop (mkF m 279 #[.val (.int p0), .val (.int p1), .val (.int p2), .val (.int p3), .val (.int p4), .val (.ref b1), .val (.ref b4), .val (.ref b8), .val (.ref b13), .val (.int (2:Int32)), .val (.int l0), .val (.int l1), .val (.int l2), .val (.int (1:Int32)), .val (.ref b24), .val (.ref b39), .val (.int l0), .val (.int l1), .val (.int ((0:Int32) + ((own_kl (l0 + (1:Int32))).toInt32))), .val (.int (1:Int32))] [(.int (((0:Int32) + ((own_kl (l0 + (1:Int32))).toInt32)) + ((own_kl (l1 + (1:Int32))).toInt32)))])) _
        refine XS.iload X163.here hx rfl (hb hby at_279) rfl ?_
        refine XS.isub X163.here hx rfl (hb hby at_281) rfl ?_
        refine XS.iload X163.here hx rfl (hb hby at_282) rfl ?_
        refine XS.icmpNo X163.here hx rfl (hb hby at_284) rfl (teq ((own_fin2 (fun l0 l1 => ((((0:Int32) + ((own_kl (l0 + (1:Int32))).toInt32)) + ((own_kl (l1 + (1:Int32))).toInt32)) - ((0:Int32) + ((own_kl (l0 + (1:Int32))).toInt32))) = l1) (by decide) (own_l03 hl0) (own_l03 hl1)) : ((((0:Int32) + ((own_kl (l0 + (1:Int32))).toInt32)) + ((own_kl (l1 + (1:Int32))).toInt32)) - ((0:Int32) + ((own_kl (l0 + (1:Int32))).toInt32))) = l1)).2 ?_
        refine XS.iconst X163.here hx rfl (hb hby at_287) ?_
        refine XS.goto X163.here hx rfl (pc0 := 288) (pc' := 292) rfl (hb hby at_288) (by decide) (by decide) ?_
        refine XS.istore X163.here hx rfl (hb hby at_292) rfl (l' := #[.val (.int p0), .val (.int p1), .val (.int p2), .val (.int p3), .val (.int p4), .val (.ref b1), .val (.ref b4), .val (.ref b8), .val (.ref b13), .val (.int (2:Int32)), .val (.int l0), .val (.int l1), .val (.int l2), .val (.int (1:Int32)), .val (.ref b24), .val (.ref b39), .val (.int l0), .val (.int l1), .val (.int ((0:Int32) + ((own_kl (l0 + (1:Int32))).toInt32))), .val (.int (1:Int32))]) rfl ?_
        refine XS.iload X163.here hx rfl (hb hby at_294) rfl ?_
        show Steps p.tables e below (T163.setTop (mkF m 296 #[.val (.int p0), .val (.int p1), .val (.int p2), .val (.int p3), .val (.int p4), .val (.ref b1), .val (.ref b4), .val (.ref b8), .val (.ref b13), .val (.int (2:Int32)), .val (.int l0), .val (.int l1), .val (.int l2), .val (.int (1:Int32)), .val (.ref b24), .val (.ref b39), .val (.int l0), .val (.int l1), .val (.int ((0:Int32) + ((own_kl (l0 + (1:Int32))).toInt32))), .val (.int (1:Int32))] [(.int (1:Int32))])) _
        exact retN X163 hx (t := .boolean) Bd.returns (by simp) (hb hby at_296) hr
      · show rm0Q Z p0 p1 p2 p3 p4 h0 n0 _ T163.heap _
        rw [e163q]
        exact ⟨rfl, N163⟩
    · have Zz_165 : n0 ≤ T127.heap.size := (Nat.le_trans Zz_93 K127q.1)
      have Ee_166 : Exa Z T127.heap b39 "com/example/tavola/tavola/profile/RowBatch" := (Ee_128.keep K127q)
      obtain ⟨cq164, kq164, q164a, q164b, q164c⟩ := isOf hZ rfl (Ee_166)
      obtain ⟨_, _, ⟨T164, L164, k164, n164⟩, -, X164, ⟨Lc164, hQ164, l164, y164, z164⟩, st164⟩ := X127.virtualBack hx (y := (⟨"com/example/tavola/tavola/profile/RowBatch", "keyStart", "(I)I"⟩ : MethodName)) (z := (⟨"com/example/tavola/tavola/profile/RowBatch", "keyStart", "(I)I"⟩ : MethodName)) hown (mvT hZ (hw _ (oG (i := 51) rfl))) (mvT hZ (hw _ (oG (i := 52) rfl))) (notFace_of_selects (args := #[]) (mvT hZ (hw _ (oG (i := 54) rfl)))) (mvT hZ (hw _ (oG (i := 54) rfl))) (mvT hZ (hw _ (oG (i := 53) rfl))) (by decide) (backOf (W := 0) (rm4_2 l Z aw hw [] b39 be ke ((0:Int32) + ((own_kl (l0 + (1:Int32))).toInt32)) (((0:Int32) + ((own_kl (l0 + (1:Int32))).toInt32)) + ((own_kl (l1 + (1:Int32))).toInt32)) (0:Int32) T127.heap n0 Zz_165 Fa1_127 Va1_127) hZ (hw _ (oG (i := 55) rfl)) (hw _ (oG (i := 28) rfl)) (by decide) (by decide)) q164a q164c (g := (mkF m 241 #[.val (.int p0), .val (.int p1), .val (.int p2), .val (.int p3), .val (.int p4), .val (.ref b1), .val (.ref b4), .val (.ref b8), .val (.ref b13), .val (.int (2:Int32)), .val (.int l0), .val (.int l1), .val (.int l2), .val (.int (2:Int32)), .val (.ref b24), .val (.ref b39), .val (.int (l0 + l1)), .val (.int l2), .unset, .unset] [(.int (2:Int32)), (.ref b39)])) rfl (by rw [hml]; rfl) (Steps.refl _) (argsL := [(.int (2:Int32))]) (rest := []) (lenOf pd_rm0_2 rfl) rfl (by show 2 * 0 + _ ≤ _; exact Nat.le_of_eq rfl) (hb hby at_241) (fun _ _ => ⟨rfl, rfl, (by decide : 17 + 0 ≤ _), (by decide : 139585 + 0 ≤ _)⟩)
      dsimp only [Pt.U, Pt.locs, Pt.cells, Pt.slots] at X164 l164 y164 z164 st164 hQ164
      subst l164 y164 z164
      obtain ⟨rfl, N164q, e164q⟩ := hQ164
      have N164 := Fr.app N127 N164q
      obtain ⟨fs, hr, hrun, hended, hW, hsame⟩ := X164.leave (v := some (.int (1:Int32))) (fun h => by rw [Bd.returns] at h; cases h)
      refine ⟨_, _, pre155 _ ?_, hrun, hended, _, _, rfl, ?_, ⟨_, rfl⟩, hW, hsame.mono (by decide) (by decide)⟩
      · show Steps p.tables e below (T127.setTop (mkF m 168 #[.val (.int p0), .val (.int p1), .val (.int p2), .val (.int p3), .val (.int p4), .val (.ref b1), .val (.ref b4), .val (.ref b8), .val (.ref b13), .val (.int (2:Int32)), .val (.int l0), .val (.int l1), .val (.int l2), .val (.int (2:Int32)), .val (.ref b24), .val (.ref b39), .unset, .unset, .unset, .unset] [])) _
        refine XS.iload X127.here hx rfl (hb hby at_168) rfl ?_
        refine XS.ifYes X127.here hx rfl (pc0 := 170) (pc' := 177) rfl (hb hby at_170) rfl ((if0 _ _).trans (feq ((by decide) : ¬ ((2:Int32) = (0:Int32)))).2) (by decide) (by decide) ?_
        refine XS.iload X127.here hx rfl (hb hby at_177) rfl ?_
        refine XS.iconst X127.here hx rfl (hb hby at_179) ?_
        refine XS.icmpYes X127.here hx rfl (pc0 := 180) (pc' := 188) rfl (hb hby at_180) rfl (feq ((by decide) : ¬ ((2:Int32) = (1:Int32)))).2 (by decide) (by decide) ?_
        refine XS.iload X127.here hx rfl (hb hby at_188) rfl ?_
        refine XS.iconst X127.here hx rfl (hb hby at_190) ?_
        refine XS.icmpNo X127.here hx rfl (hb hby at_191) rfl (teq (rfl : (2:Int32) = (2:Int32))).2 ?_
        refine XS.iload X127.here hx rfl (hb hby at_194) rfl ?_
        refine XS.iload X127.here hx rfl (hb hby at_196) rfl ?_
        refine XS.iadd X127.here hx rfl (hb hby at_198) rfl ?_
        refine XS.goto X127.here hx rfl (pc0 := 199) (pc' := 210) rfl (hb hby at_199) (by decide) (by decide) ?_
        refine XS.istore X127.here hx rfl (hb hby at_210) rfl (l' := #[.val (.int p0), .val (.int p1), .val (.int p2), .val (.int p3), .val (.int p4), .val (.ref b1), .val (.ref b4), .val (.ref b8), .val (.ref b13), .val (.int (2:Int32)), .val (.int l0), .val (.int l1), .val (.int l2), .val (.int (2:Int32)), .val (.ref b24), .val (.ref b39), .val (.int (l0 + l1)), .unset, .unset, .unset]) rfl ?_
        refine XS.iload X127.here hx rfl (hb hby at_212) rfl ?_
        refine XS.ifYes X127.here hx rfl (pc0 := 214) (pc' := 222) rfl (hb hby at_214) rfl ((if0 _ _).trans (feq ((by decide) : ¬ ((2:Int32) = (0:Int32)))).2) (by decide) (by decide) ?_
        refine XS.iload X127.here hx rfl (hb hby at_222) rfl ?_
        refine XS.iconst X127.here hx rfl (hb hby at_224) ?_
        refine XS.icmpYes X127.here hx rfl (pc0 := 225) (pc' := 233) rfl (hb hby at_225) rfl (feq ((by decide) : ¬ ((2:Int32) = (1:Int32)))).2 (by decide) (by decide) ?_
        refine XS.iload X127.here hx rfl (hb hby at_233) rfl ?_
        refine XS.istore X127.here hx rfl (hb hby at_235) rfl (l' := #[.val (.int p0), .val (.int p1), .val (.int p2), .val (.int p3), .val (.int p4), .val (.ref b1), .val (.ref b4), .val (.ref b8), .val (.ref b13), .val (.int (2:Int32)), .val (.int l0), .val (.int l1), .val (.int l2), .val (.int (2:Int32)), .val (.ref b24), .val (.ref b39), .val (.int (l0 + l1)), .val (.int l2), .unset, .unset]) rfl ?_
        refine XS.aload X127.here hx rfl (hb hby at_237) rfl rfl ?_
        refine XS.iload X127.here hx rfl (hb hby at_239) rfl ?_
        show Steps p.tables e below (T127.setTop (mkF m 241 #[.val (.int p0), .val (.int p1), .val (.int p2), .val (.int p3), .val (.int p4), .val (.ref b1), .val (.ref b4), .val (.ref b8), .val (.ref b13), .val (.int (2:Int32)), .val (.int l0), .val (.int l1), .val (.int l2), .val (.int (2:Int32)), .val (.ref b24), .val (.ref b39), .val (.int (l0 + l1)), .val (.int l2), .unset, .unset] [(.int (2:Int32)), (.ref b39)])) _
        refine st164.trans ?_
        show Steps p.tables e below (T164.setTop (mkF m 244 #[.val (.int p0), .val (.int p1), .val (.int p2), .val (.int p3), .val (.int p4), .val (.ref b1), .val (.ref b4), .val (.ref b8), .val (.ref b13), .val (.int (2:Int32)), .val (.int l0), .val (.int l1), .val (.int l2), .val (.int (2:Int32)), .val (.ref b24), .val (.ref b39), .val (.int (l0 + l1)), .val (.int l2), .unset, .unset] [(.int (((0:Int32) + ((own_kl (l0 + (1:Int32))).toInt32)) + ((own_kl (l1 + (1:Int32))).toInt32)))])) _
        refine XS.istore X164.here hx rfl (hb hby at_244) rfl (l' := #[.val (.int p0), .val (.int p1), .val (.int p2), .val (.int p3), .val (.int p4), .val (.ref b1), .val (.ref b4), .val (.ref b8), .val (.ref b13), .val (.int (2:Int32)), .val (.int l0), .val (.int l1), .val (.int l2), .val (.int (2:Int32)), .val (.ref b24), .val (.ref b39), .val (.int (l0 + l1)), .val (.int l2), .val (.int (((0:Int32) + ((own_kl (l0 + (1:Int32))).toInt32)) + ((own_kl (l1 + (1:Int32))).toInt32))), .unset]) rfl ?_
        refine XS.iload X164.here hx rfl (hb hby at_246) rfl ?_
        refine XS.iload X164.here hx rfl (hb hby at_248) rfl ?_
        refine XS.icmpNo X164.here hx rfl (hb hby at_250) rfl (teq ((own_fin2 (fun l0 l1 => (((0:Int32) + ((own_kl (l0 + (1:Int32))).toInt32)) + ((own_kl (l1 + (1:Int32))).toInt32)) = (l0 + l1)) (by decide) (own_l03 hl0) (own_l03 hl1)) : (((0:Int32) + ((own_kl (l0 + (1:Int32))).toInt32)) + ((own_kl (l1 + (1:Int32))).toInt32)) = (l0 + l1))).2 ?_
        refine XS.iconst X164.here hx rfl (hb hby at_253) ?_
        refine XS.goto X164.here hx rfl (pc0 := 254) (pc' := 258) rfl (hb hby at_254) (by decide) (by decide) ?_
        refine XS.istore X164.here hx rfl (hb hby at_258) rfl (l' := #[.val (.int p0), .val (.int p1), .val (.int p2), .val (.int p3), .val (.int p4), .val (.ref b1), .val (.ref b4), .val (.ref b8), .val (.ref b13), .val (.int (2:Int32)), .val (.int l0), .val (.int l1), .val (.int l2), .val (.int (2:Int32)), .val (.ref b24), .val (.ref b39), .val (.int (l0 + l1)), .val (.int l2), .val (.int (((0:Int32) + ((own_kl (l0 + (1:Int32))).toInt32)) + ((own_kl (l1 + (1:Int32))).toInt32))), .val (.int (1:Int32))]) rfl ?_
        refine XS.iload X164.here hx rfl (hb hby at_260) rfl ?_
        refine XS.iload X164.here hx rfl (hb hby at_262) rfl ?_
        refine XS.icmpYes X164.here hx rfl (pc0 := 264) (pc' := 294) rfl (hb hby at_264) rfl (flt ((by decide) : ¬ ((2:Int32) < (2:Int32)))).2.1 (by decide) (by decide) ?_
        refine XS.iload X164.here hx rfl (hb hby at_294) rfl ?_
        show Steps p.tables e below (T164.setTop (mkF m 296 #[.val (.int p0), .val (.int p1), .val (.int p2), .val (.int p3), .val (.int p4), .val (.ref b1), .val (.ref b4), .val (.ref b8), .val (.ref b13), .val (.int (2:Int32)), .val (.int l0), .val (.int l1), .val (.int l2), .val (.int (2:Int32)), .val (.ref b24), .val (.ref b39), .val (.int (l0 + l1)), .val (.int l2), .val (.int (((0:Int32) + ((own_kl (l0 + (1:Int32))).toInt32)) + ((own_kl (l1 + (1:Int32))).toInt32))), .val (.int (1:Int32))] [(.int (1:Int32))])) _
        exact retN X164 hx (t := .boolean) Bd.returns (by simp) (hb hby at_296) hr
      · show rm0Q Z p0 p1 p2 p3 p4 h0 n0 _ T164.heap _
        rw [e164q]
        exact ⟨rfl, N164⟩
  · have Zz_168 : n0 ≤ T41.heap.size := (Nat.le_trans Zz_50 K41q.1)
    obtain ⟨_, _, ⟨T167, L167, k167, n167⟩, -, X167, ⟨Lc167, hQ167, l167, y167, z167⟩, st167⟩ := Jvm.LawKit.callS X41 hx (y := (⟨"com/example/tavola/tavola/profile/RowBatchKeyStartPinLaw", "pick", "(I[I[I[I[I)[I"⟩ : MethodName)) hown (mvT hZ (hw _ (oG (i := 56) rfl))) (mvT hZ (hw _ (oG (i := 57) rfl))) (mvT hZ (hw _ (oG (i := 58) rfl))) (mvT hZ (hw _ (oG (i := 59) rfl))) (by decide) (backOf (W := 2) (rm5 l Z aw hw [] l0 b1 b4 b8 b13 T41.heap n0 Zz_168) hZ (hw _ (oG (i := 59) rfl)) (hw _ (oG (i := 58) rfl)) (by decide) (by decide)) (g := (mkF m 98 #[.val (.int p0), .val (.int p1), .val (.int p2), .val (.int p3), .val (.int p4), .val (.ref b1), .val (.ref b4), .val (.ref b8), .val (.ref b13), .val (.int (3:Int32)), .val (.int l0), .val (.int l1), .val (.int l2), .val (.int rr), .val (.ref b24), .val (.ref b39), .unset, .unset, .unset, .unset] [(.ref b13), (.ref b8), (.ref b4), (.ref b1), (.int l0), (.ref b24), (.ref b39)])) rfl (by rw [hml]; rfl) (argsL := [(.int l0), (.ref b1), (.ref b4), (.ref b8), (.ref b13)]) (rest := [(.ref b24), (.ref b39)]) (lenOf pd_rm0_3 rfl) rfl (by show 2 * 0 + _ ≤ _; exact Nat.le_of_eq rfl) (hb hby at_98) (fun _ _ => ⟨rfl, rfl, (by decide : 17 + 0 ≤ _), (by decide : 139585 + 0 ≤ _)⟩)
    dsimp only [Pt.U, Pt.locs, Pt.cells, Pt.slots] at X167 l167 y167 z167 st167 hQ167
    subst l167 y167 z167
    obtain ⟨rfl, N167q, e167q⟩ := hQ167
    have N167 := Fr.app N41 N167q
    have Va_169 : Arv Z T41.heap b1 k1 .int (1:Int32) [(.int (0:Int32))] (.int (0:Int32)) := (Va_42.keep K41q (ninS (Nat.ne_of_lt lt_b1_b39) nin0))
    have Va_170 : Arv Z T41.heap b4 k4 .int (2:Int32) [(.int (0:Int32)), (.int (0:Int32))] (.int (0:Int32)) := (Va_45.keep K41q (ninS (Nat.ne_of_lt lt_b4_b39) nin0))
    have Va_171 : Arv Z T41.heap b8 k8 .int (3:Int32) [(.int (0:Int32)), (.int (0:Int32)), (.int (0:Int32))] (.int (0:Int32)) := (Va_46.keep K41q (ninS (Nat.ne_of_lt lt_b8_b39) nin0))
    have Va_172 : Arv Z T41.heap b13 k13 .int (4:Int32) [(.int (0:Int32)), (.int (0:Int32)), (.int (0:Int32)), (.int (0:Int32))] (.int (0:Int32)) := (Va_43.keep K41q (ninS (Nat.ne_of_lt lt_b13_b39) nin0))
    obtain ⟨cc0, kc0, hcc0, Vcc0, ltcc0⟩ := own_picked (own_l03 hl0) Va_169 Va_170 Va_171 Va_172 (show b1 < b4 by omega) (show b4 < b8 by omega) (show b8 < b13 by omega) (show b13 < b24 by omega)
    have pre173 : ∀ t, Steps p.tables e below (T167.setTop (mkF m 101 #[.val (.int p0), .val (.int p1), .val (.int p2), .val (.int p3), .val (.int p4), .val (.ref b1), .val (.ref b4), .val (.ref b8), .val (.ref b13), .val (.int (3:Int32)), .val (.int l0), .val (.int l1), .val (.int l2), .val (.int rr), .val (.ref b24), .val (.ref b39), .unset, .unset, .unset, .unset] [(.ref (own_pick l0 b1 b4 b8 b13)), (.ref b24), (.ref b39)])) t → Steps p.tables e below (s₁.setTop (entryFrame m #[(.int p0), (.int p1), (.int p2), (.int p3), (.int p4)] maxLocals)) t := fun t k => pre51 t (by
      show Steps p.tables e below (T41.setTop (mkF m 79 #[.val (.int p0), .val (.int p1), .val (.int p2), .val (.int p3), .val (.int p4), .val (.ref b1), .val (.ref b4), .val (.ref b8), .val (.ref b13), .val (.int (3:Int32)), .val (.int l0), .val (.int l1), .val (.int l2), .val (.int rr), .val (.ref b24), .val (.ref b39), .unset, .unset, .unset, .unset] [])) _
      refine XS.iload X41.here hx rfl (hb hby at_79) rfl ?_
      refine XS.ifNo X41.here hx rfl (hb hby at_81) rfl ((if0 _ _).trans (tlt ((by decide) : (0:Int32) < (3:Int32))).2.2.2) ?_
      refine XS.aload X41.here hx rfl (hb hby at_84) rfl rfl ?_
      refine XS.aload X41.here hx rfl (hb hby at_86) rfl rfl ?_
      refine XS.iload X41.here hx rfl (hb hby at_88) rfl ?_
      refine XS.aload X41.here hx rfl (hb hby at_90) rfl rfl ?_
      refine XS.aload X41.here hx rfl (hb hby at_92) rfl rfl ?_
      refine XS.aload X41.here hx rfl (hb hby at_94) rfl rfl ?_
      refine XS.aload X41.here hx rfl (hb hby at_96) rfl rfl ?_
      show Steps p.tables e below (T41.setTop (mkF m 98 #[.val (.int p0), .val (.int p1), .val (.int p2), .val (.int p3), .val (.int p4), .val (.ref b1), .val (.ref b4), .val (.ref b8), .val (.ref b13), .val (.int (3:Int32)), .val (.int l0), .val (.int l1), .val (.int l2), .val (.int rr), .val (.ref b24), .val (.ref b39), .unset, .unset, .unset, .unset] [(.ref b13), (.ref b8), (.ref b4), (.ref b1), (.int l0), (.ref b24), (.ref b39)])) _
      refine st167 _ ?_
      exact k)
    rw [← hcc0] at pre173
    have Ee_175 : Exa Z T41.heap b39 "com/example/tavola/tavola/profile/RowBatch" := (A39.keep K41q)
    have Ee_176 : Exa Z T41.heap b24 "com/example/tavola/tavola/profile/CsvReader" := (Ee_44.keep K41q)
    have Ff_177 : Fld Z T41.heap b24 "com/example/tavola/tavola/profile/CsvReader" "ends" "[I" (.ref bn) := ((Fn25.ext E39).keep K41q (ninS (Nat.ne_of_lt lt_b24_b39) nin0))
    have Va_178 : Arv Z T41.heap bn kn .int (16:Int32) [] (.int (0:Int32)) := (Va_47.keep K41q (ninS (Nat.ne_of_lt lt_bn_b39) nin0))
    have Ff_179 : Fld Z T41.heap b24 "com/example/tavola/tavola/profile/CsvReader" "record" "[B" (.ref br) := ((Fr25.ext E39).keep K41q (ninS (Nat.ne_of_lt lt_b24_b39) nin0))
    have Aa_180 : own_Arf Z T41.heap br kr .byte (256:Int32) (.int (0:Int32)) := (own_arfK Aa_48 K41q (ninS (Nat.ne_of_lt lt_br_b39) nin0))
    obtain ⟨cq174, kq174, q174a, q174b, q174c⟩ := isOf hZ e167q (Ee_175)
    obtain ⟨_, _, ⟨T174, L174, k174, n174⟩, -, X174, ⟨Lc174, hQ174, l174, y174, z174⟩, st174⟩ := X167.virtualBack hx (y := (⟨"com/example/tavola/tavola/profile/RowBatch", "add", "(Lcom/example/tavola/tavola/profile/CsvReader;[IJJJ)I"⟩ : MethodName)) (z := (⟨"com/example/tavola/tavola/profile/RowBatch", "add", "(Lcom/example/tavola/tavola/profile/CsvReader;[IJJJ)I"⟩ : MethodName)) hown (mvT hZ (hw _ (oG (i := 60) rfl))) (mvT hZ (hw _ (oG (i := 61) rfl))) (notFace_of_selects (args := #[]) (mvT hZ (hw _ (oG (i := 63) rfl)))) (mvT hZ (hw _ (oG (i := 63) rfl))) (mvT hZ (hw _ (oG (i := 62) rfl))) (by decide) (backOf (W := 0) (rm6_0 l Z aw hw [] b39 b24 cc0 (0:Int64) (0:Int64) (0:Int64) bn br bk be bh bf bg bx bs kn kr kc0 kk ke kh kf kg kx ks (l0 + (1:Int32)) sc (0:Int32) (0:Int32) (0:Int32) (0:Int32) T41.heap n0 Zz_168 Ee_175 Ee_176 Ff_177 Va_178 Ff_179 Aa_180 Vcc0 Fi0_41 Fi1_41 Fi2_41 Fa0_41 Fa1_41 Fa2_41 Fa3_41 Fa4_41 Fa5_41 Fa6_41 Va0_41 Va1_41 Va2_41 Va3_41 Va4_41 Va5_41 Va6_41 (by omega) (by omega) (by omega) (by omega) (by omega) (by omega) (by omega) (by omega) (by omega) (by omega) (by omega) g_b39 g_bk g_be g_bh g_bf g_bg g_bx g_bs (own_hL (own_l03 hl0)) hsc (by decide) (by decide)) hZ (hw _ (oG (i := 64) rfl)) (hw _ (oG (i := 28) rfl)) (by decide) (by decide)) q174a q174c (g := (mkF m 104 #[.val (.int p0), .val (.int p1), .val (.int p2), .val (.int p3), .val (.int p4), .val (.ref b1), .val (.ref b4), .val (.ref b8), .val (.ref b13), .val (.int (3:Int32)), .val (.int l0), .val (.int l1), .val (.int l2), .val (.int rr), .val (.ref b24), .val (.ref b39), .unset, .unset, .unset, .unset] [(.long (0:Int64)), (.long (0:Int64)), (.long (0:Int64)), (.ref cc0), (.ref b24), (.ref b39)])) rfl (by rw [hml]; rfl) (Steps.refl _) (argsL := [(.ref b24), (.ref cc0), (.long (0:Int64)), (.long (0:Int64)), (.long (0:Int64))]) (rest := []) (lenOf pd_rm0_4 rfl) rfl (by show 2 * 0 + _ ≤ _; exact Nat.le_of_eq rfl) (hb hby at_104) (fun _ _ => ⟨rfl, e167q, (by decide : 17 + 0 ≤ _), (by decide : 139585 + 0 ≤ _)⟩)
    dsimp only [Pt.U, Pt.locs, Pt.cells, Pt.slots] at X174 l174 y174 z174 st174 hQ174
    subst l174 y174 z174
    obtain ⟨rfl, N174q, K174q, Fi0_174, Fi1_174, Fi2_174, Fa0_174, Fa1_174, Fa2_174, Fa3_174, Fa4_174, Fa5_174, Fa6_174, Va0_174, Va1_174, Va2_174, Va3_174, Va4_174, Va5_174, Va6_174⟩ := hQ174
    have N174 := Fr.app N167 N174q
    have Zz_182 : n0 ≤ T174.heap.size := (Nat.le_trans Zz_168 K174q.1)
    obtain ⟨_, _, ⟨T181, L181, k181, n181⟩, -, X181, ⟨Lc181, hQ181, l181, y181, z181⟩, st181⟩ := Jvm.LawKit.callS X174 hx (y := (⟨"com/example/tavola/tavola/profile/RowBatchKeyStartPinLaw", "pick", "(I[I[I[I[I)[I"⟩ : MethodName)) hown (mvT hZ (hw _ (oG (i := 56) rfl))) (mvT hZ (hw _ (oG (i := 57) rfl))) (mvT hZ (hw _ (oG (i := 58) rfl))) (mvT hZ (hw _ (oG (i := 59) rfl))) (by decide) (backOf (W := 2) (rm5 l Z aw hw [] l1 b1 b4 b8 b13 T174.heap n0 Zz_182) hZ (hw _ (oG (i := 59) rfl)) (hw _ (oG (i := 58) rfl)) (by decide) (by decide)) (g := (mkF m 128 #[.val (.int p0), .val (.int p1), .val (.int p2), .val (.int p3), .val (.int p4), .val (.ref b1), .val (.ref b4), .val (.ref b8), .val (.ref b13), .val (.int (3:Int32)), .val (.int l0), .val (.int l1), .val (.int l2), .val (.int rr), .val (.ref b24), .val (.ref b39), .unset, .unset, .unset, .unset] [(.ref b13), (.ref b8), (.ref b4), (.ref b1), (.int l1), (.ref b24), (.ref b39)])) rfl (by rw [hml]; rfl) (argsL := [(.int l1), (.ref b1), (.ref b4), (.ref b8), (.ref b13)]) (rest := [(.ref b24), (.ref b39)]) (lenOf pd_rm0_3 rfl) rfl (by show 2 * 0 + _ ≤ _; exact Nat.le_of_eq rfl) (hb hby at_128) (fun _ _ => ⟨rfl, rfl, (by decide : 17 + 0 ≤ _), (by decide : 139585 + 0 ≤ _)⟩)
    dsimp only [Pt.U, Pt.locs, Pt.cells, Pt.slots] at X181 l181 y181 z181 st181 hQ181
    subst l181 y181 z181
    obtain ⟨rfl, N181q, e181q⟩ := hQ181
    have N181 := Fr.app N174 N181q
    have ne_183 : b1 ≠ bs := by omega
    have ne_184 : b1 ≠ bx := by omega
    have ne_185 : b1 ≠ bg := by omega
    have ne_186 : b1 ≠ bf := by omega
    have ne_187 : b1 ≠ bh := by omega
    have ne_188 : b1 ≠ be := by omega
    have ne_189 : b1 ≠ bk := by omega
    have Va_190 : Arv Z T174.heap b1 k1 .int (1:Int32) [(.int (0:Int32))] (.int (0:Int32)) := (Va_169.keep K174q (ninS (Nat.ne_of_lt lt_b1_b39) (ninS ne_189 (ninS ne_188 (ninS ne_187 (ninS ne_186 (ninS ne_185 (ninS ne_184 (ninS ne_183 nin0)))))))))
    have ne_191 : b4 ≠ bs := by omega
    have ne_192 : b4 ≠ bx := by omega
    have ne_193 : b4 ≠ bg := by omega
    have ne_194 : b4 ≠ bf := by omega
    have ne_195 : b4 ≠ bh := by omega
    have ne_196 : b4 ≠ be := by omega
    have ne_197 : b4 ≠ bk := by omega
    have Va_198 : Arv Z T174.heap b4 k4 .int (2:Int32) [(.int (0:Int32)), (.int (0:Int32))] (.int (0:Int32)) := (Va_170.keep K174q (ninS (Nat.ne_of_lt lt_b4_b39) (ninS ne_197 (ninS ne_196 (ninS ne_195 (ninS ne_194 (ninS ne_193 (ninS ne_192 (ninS ne_191 nin0)))))))))
    have ne_199 : b8 ≠ bs := by omega
    have ne_200 : b8 ≠ bx := by omega
    have ne_201 : b8 ≠ bg := by omega
    have ne_202 : b8 ≠ bf := by omega
    have ne_203 : b8 ≠ bh := by omega
    have ne_204 : b8 ≠ be := by omega
    have ne_205 : b8 ≠ bk := by omega
    have Va_206 : Arv Z T174.heap b8 k8 .int (3:Int32) [(.int (0:Int32)), (.int (0:Int32)), (.int (0:Int32))] (.int (0:Int32)) := (Va_171.keep K174q (ninS (Nat.ne_of_lt lt_b8_b39) (ninS ne_205 (ninS ne_204 (ninS ne_203 (ninS ne_202 (ninS ne_201 (ninS ne_200 (ninS ne_199 nin0)))))))))
    have ne_207 : b13 ≠ bs := by omega
    have ne_208 : b13 ≠ bx := by omega
    have ne_209 : b13 ≠ bg := by omega
    have ne_210 : b13 ≠ bf := by omega
    have ne_211 : b13 ≠ bh := by omega
    have ne_212 : b13 ≠ be := by omega
    have ne_213 : b13 ≠ bk := by omega
    have Va_214 : Arv Z T174.heap b13 k13 .int (4:Int32) [(.int (0:Int32)), (.int (0:Int32)), (.int (0:Int32)), (.int (0:Int32))] (.int (0:Int32)) := (Va_172.keep K174q (ninS (Nat.ne_of_lt lt_b13_b39) (ninS ne_213 (ninS ne_212 (ninS ne_211 (ninS ne_210 (ninS ne_209 (ninS ne_208 (ninS ne_207 nin0)))))))))
    obtain ⟨cc1, kc1, hcc1, Vcc1, ltcc1⟩ := own_picked (own_l03 hl1) Va_190 Va_198 Va_206 Va_214 (show b1 < b4 by omega) (show b4 < b8 by omega) (show b8 < b13 by omega) (show b13 < b24 by omega)
    have pre215 : ∀ t, Steps p.tables e below (T181.setTop (mkF m 131 #[.val (.int p0), .val (.int p1), .val (.int p2), .val (.int p3), .val (.int p4), .val (.ref b1), .val (.ref b4), .val (.ref b8), .val (.ref b13), .val (.int (3:Int32)), .val (.int l0), .val (.int l1), .val (.int l2), .val (.int rr), .val (.ref b24), .val (.ref b39), .unset, .unset, .unset, .unset] [(.ref (own_pick l1 b1 b4 b8 b13)), (.ref b24), (.ref b39)])) t → Steps p.tables e below (s₁.setTop (entryFrame m #[(.int p0), (.int p1), (.int p2), (.int p3), (.int p4)] maxLocals)) t := fun t k => pre173 t (by
      show Steps p.tables e below (T167.setTop (mkF m 101 #[.val (.int p0), .val (.int p1), .val (.int p2), .val (.int p3), .val (.int p4), .val (.ref b1), .val (.ref b4), .val (.ref b8), .val (.ref b13), .val (.int (3:Int32)), .val (.int l0), .val (.int l1), .val (.int l2), .val (.int rr), .val (.ref b24), .val (.ref b39), .unset, .unset, .unset, .unset] [(.ref cc0), (.ref b24), (.ref b39)])) _
      refine XS.lconst X167.here hx rfl (hb hby at_101) ?_
      refine XS.lconst X167.here hx rfl (hb hby at_102) ?_
      refine XS.lconst X167.here hx rfl (hb hby at_103) ?_
      show Steps p.tables e below (T167.setTop (mkF m 104 #[.val (.int p0), .val (.int p1), .val (.int p2), .val (.int p3), .val (.int p4), .val (.ref b1), .val (.ref b4), .val (.ref b8), .val (.ref b13), .val (.int (3:Int32)), .val (.int l0), .val (.int l1), .val (.int l2), .val (.int rr), .val (.ref b24), .val (.ref b39), .unset, .unset, .unset, .unset] [(.long (0:Int64)), (.long (0:Int64)), (.long (0:Int64)), (.ref cc0), (.ref b24), (.ref b39)])) _
      refine st174.trans ?_
      show Steps p.tables e below (T174.setTop (mkF m 107 #[.val (.int p0), .val (.int p1), .val (.int p2), .val (.int p3), .val (.int p4), .val (.ref b1), .val (.ref b4), .val (.ref b8), .val (.ref b13), .val (.int (3:Int32)), .val (.int l0), .val (.int l1), .val (.int l2), .val (.int rr), .val (.ref b24), .val (.ref b39), .unset, .unset, .unset, .unset] [(.int (0:Int32))])) _
      refine XS.pop X174.here hx rfl (hb hby at_107) rfl rfl ?_
      refine XS.iload X174.here hx rfl (hb hby at_108) rfl ?_
      refine XS.iconst X174.here hx rfl (hb hby at_110) ?_
      refine XS.icmpNo X174.here hx rfl (hb hby at_111) rfl (tlt ((by decide) : (1:Int32) < (3:Int32))).2.2.2 ?_
      refine XS.aload X174.here hx rfl (hb hby at_114) rfl rfl ?_
      refine XS.aload X174.here hx rfl (hb hby at_116) rfl rfl ?_
      refine XS.iload X174.here hx rfl (hb hby at_118) rfl ?_
      refine XS.aload X174.here hx rfl (hb hby at_120) rfl rfl ?_
      refine XS.aload X174.here hx rfl (hb hby at_122) rfl rfl ?_
      refine XS.aload X174.here hx rfl (hb hby at_124) rfl rfl ?_
      refine XS.aload X174.here hx rfl (hb hby at_126) rfl rfl ?_
      show Steps p.tables e below (T174.setTop (mkF m 128 #[.val (.int p0), .val (.int p1), .val (.int p2), .val (.int p3), .val (.int p4), .val (.ref b1), .val (.ref b4), .val (.ref b8), .val (.ref b13), .val (.int (3:Int32)), .val (.int l0), .val (.int l1), .val (.int l2), .val (.int rr), .val (.ref b24), .val (.ref b39), .unset, .unset, .unset, .unset] [(.ref b13), (.ref b8), (.ref b4), (.ref b1), (.int l1), (.ref b24), (.ref b39)])) _
      refine st181 _ ?_
      exact k)
    rw [← hcc1] at pre215
    have Ee_217 : Exa Z T174.heap b39 "com/example/tavola/tavola/profile/RowBatch" := (Ee_175.keep K174q)
    have Ee_218 : Exa Z T174.heap b24 "com/example/tavola/tavola/profile/CsvReader" := (Ee_176.keep K174q)
    have ne_219 : b24 ≠ bs := by omega
    have ne_220 : b24 ≠ bx := by omega
    have ne_221 : b24 ≠ bg := by omega
    have ne_222 : b24 ≠ bf := by omega
    have ne_223 : b24 ≠ bh := by omega
    have ne_224 : b24 ≠ be := by omega
    have ne_225 : b24 ≠ bk := by omega
    have Ff_226 : Fld Z T174.heap b24 "com/example/tavola/tavola/profile/CsvReader" "ends" "[I" (.ref bn) := (Ff_177.keep K174q (ninS (Nat.ne_of_lt lt_b24_b39) (ninS ne_225 (ninS ne_224 (ninS ne_223 (ninS ne_222 (ninS ne_221 (ninS ne_220 (ninS ne_219 nin0)))))))))
    have ne_227 : bn ≠ bs := by omega
    have ne_228 : bn ≠ bx := by omega
    have ne_229 : bn ≠ bg := by omega
    have ne_230 : bn ≠ bf := by omega
    have ne_231 : bn ≠ bh := by omega
    have ne_232 : bn ≠ be := by omega
    have ne_233 : bn ≠ bk := by omega
    have Va_234 : Arv Z T174.heap bn kn .int (16:Int32) [] (.int (0:Int32)) := (Va_178.keep K174q (ninS (Nat.ne_of_lt lt_bn_b39) (ninS ne_233 (ninS ne_232 (ninS ne_231 (ninS ne_230 (ninS ne_229 (ninS ne_228 (ninS ne_227 nin0)))))))))
    have Ff_235 : Fld Z T174.heap b24 "com/example/tavola/tavola/profile/CsvReader" "record" "[B" (.ref br) := (Ff_179.keep K174q (ninS (Nat.ne_of_lt lt_b24_b39) (ninS ne_225 (ninS ne_224 (ninS ne_223 (ninS ne_222 (ninS ne_221 (ninS ne_220 (ninS ne_219 nin0)))))))))
    have ne_236 : br ≠ bs := by omega
    have ne_237 : br ≠ bx := by omega
    have ne_238 : br ≠ bg := by omega
    have ne_239 : br ≠ bf := by omega
    have ne_240 : br ≠ bh := by omega
    have ne_241 : br ≠ be := by omega
    have ne_242 : br ≠ bk := by omega
    have Aa_243 : own_Arf Z T174.heap br kr .byte (256:Int32) (.int (0:Int32)) := (own_arfK Aa_180 K174q (ninS (Nat.ne_of_lt lt_br_b39) (ninS ne_242 (ninS ne_241 (ninS ne_240 (ninS ne_239 (ninS ne_238 (ninS ne_237 (ninS ne_236 nin0)))))))))
    obtain ⟨cq216, kq216, q216a, q216b, q216c⟩ := isOf hZ e181q (Ee_217)
    obtain ⟨_, _, ⟨T216, L216, k216, n216⟩, -, X216, ⟨Lc216, hQ216, l216, y216, z216⟩, st216⟩ := X181.virtualBack hx (y := (⟨"com/example/tavola/tavola/profile/RowBatch", "add", "(Lcom/example/tavola/tavola/profile/CsvReader;[IJJJ)I"⟩ : MethodName)) (z := (⟨"com/example/tavola/tavola/profile/RowBatch", "add", "(Lcom/example/tavola/tavola/profile/CsvReader;[IJJJ)I"⟩ : MethodName)) hown (mvT hZ (hw _ (oG (i := 60) rfl))) (mvT hZ (hw _ (oG (i := 61) rfl))) (notFace_of_selects (args := #[]) (mvT hZ (hw _ (oG (i := 63) rfl)))) (mvT hZ (hw _ (oG (i := 63) rfl))) (mvT hZ (hw _ (oG (i := 62) rfl))) (by decide) (backOf (W := 0) (rm6_1 l Z aw hw [] b39 b24 cc1 (0:Int64) (0:Int64) (0:Int64) bn br bk be bh bf bg bx bs kn kr kc1 kk ke kh kf kg kx ks (l1 + (1:Int32)) sc ((0:Int32) + ((own_kl (l0 + (1:Int32))).toInt32)) ((0:Int32) + ((own_kl (l0 + (1:Int32))).toInt32)) (0:Int32) (0:Int32) T174.heap n0 Zz_182 Ee_217 Ee_218 Ff_226 Va_234 Ff_235 Aa_243 Vcc1 Fi0_174 Fi1_174 Fi2_174 Fa0_174 Fa1_174 Fa2_174 Fa3_174 Fa4_174 Fa5_174 Fa6_174 Va0_174 Va1_174 Va2_174 Va3_174 Va4_174 Va5_174 Va6_174 (by omega) (by omega) (by omega) (by omega) (by omega) (by omega) (by omega) (by omega) (by omega) (by omega) (by omega) g_b39 g_bk g_be g_bh g_bf g_bg g_bx g_bs (own_hL (own_l03 hl1)) hsc (own_s1 hl0).1 (own_s1 hl0).2) hZ (hw _ (oG (i := 64) rfl)) (hw _ (oG (i := 28) rfl)) (by decide) (by decide)) q216a q216c (g := (mkF m 134 #[.val (.int p0), .val (.int p1), .val (.int p2), .val (.int p3), .val (.int p4), .val (.ref b1), .val (.ref b4), .val (.ref b8), .val (.ref b13), .val (.int (3:Int32)), .val (.int l0), .val (.int l1), .val (.int l2), .val (.int rr), .val (.ref b24), .val (.ref b39), .unset, .unset, .unset, .unset] [(.long (0:Int64)), (.long (0:Int64)), (.long (0:Int64)), (.ref cc1), (.ref b24), (.ref b39)])) rfl (by rw [hml]; rfl) (Steps.refl _) (argsL := [(.ref b24), (.ref cc1), (.long (0:Int64)), (.long (0:Int64)), (.long (0:Int64))]) (rest := []) (lenOf pd_rm0_4 rfl) rfl (by show 2 * 0 + _ ≤ _; exact Nat.le_of_eq rfl) (hb hby at_134) (fun _ _ => ⟨rfl, e181q, (by decide : 17 + 0 ≤ _), (by decide : 139585 + 0 ≤ _)⟩)
    dsimp only [Pt.U, Pt.locs, Pt.cells, Pt.slots] at X216 l216 y216 z216 st216 hQ216
    subst l216 y216 z216
    obtain ⟨rfl, N216q, K216q, Fi0_216, Fi1_216, Fi2_216, Fa0_216, Fa1_216, Fa2_216, Fa3_216, Fa4_216, Fa5_216, Fa6_216, Va0_216, Va1_216, Va2_216, Va3_216, Va4_216, Va5_216, Va6_216⟩ := hQ216
    have N216 := Fr.app N181 N216q
    have Zz_245 : n0 ≤ T216.heap.size := (Nat.le_trans Zz_182 K216q.1)
    obtain ⟨_, _, ⟨T244, L244, k244, n244⟩, -, X244, ⟨Lc244, hQ244, l244, y244, z244⟩, st244⟩ := Jvm.LawKit.callS X216 hx (y := (⟨"com/example/tavola/tavola/profile/RowBatchKeyStartPinLaw", "pick", "(I[I[I[I[I)[I"⟩ : MethodName)) hown (mvT hZ (hw _ (oG (i := 56) rfl))) (mvT hZ (hw _ (oG (i := 57) rfl))) (mvT hZ (hw _ (oG (i := 58) rfl))) (mvT hZ (hw _ (oG (i := 59) rfl))) (by decide) (backOf (W := 2) (rm5 l Z aw hw [] l2 b1 b4 b8 b13 T216.heap n0 Zz_245) hZ (hw _ (oG (i := 59) rfl)) (hw _ (oG (i := 58) rfl)) (by decide) (by decide)) (g := (mkF m 158 #[.val (.int p0), .val (.int p1), .val (.int p2), .val (.int p3), .val (.int p4), .val (.ref b1), .val (.ref b4), .val (.ref b8), .val (.ref b13), .val (.int (3:Int32)), .val (.int l0), .val (.int l1), .val (.int l2), .val (.int rr), .val (.ref b24), .val (.ref b39), .unset, .unset, .unset, .unset] [(.ref b13), (.ref b8), (.ref b4), (.ref b1), (.int l2), (.ref b24), (.ref b39)])) rfl (by rw [hml]; rfl) (argsL := [(.int l2), (.ref b1), (.ref b4), (.ref b8), (.ref b13)]) (rest := [(.ref b24), (.ref b39)]) (lenOf pd_rm0_3 rfl) rfl (by show 2 * 0 + _ ≤ _; exact Nat.le_of_eq rfl) (hb hby at_158) (fun _ _ => ⟨rfl, rfl, (by decide : 17 + 0 ≤ _), (by decide : 139585 + 0 ≤ _)⟩)
    dsimp only [Pt.U, Pt.locs, Pt.cells, Pt.slots] at X244 l244 y244 z244 st244 hQ244
    subst l244 y244 z244
    obtain ⟨rfl, N244q, e244q⟩ := hQ244
    have N244 := Fr.app N216 N244q
    have Va_246 : Arv Z T216.heap b1 k1 .int (1:Int32) [(.int (0:Int32))] (.int (0:Int32)) := (Va_190.keep K216q (ninS (Nat.ne_of_lt lt_b1_b39) (ninS ne_189 (ninS ne_188 (ninS ne_187 (ninS ne_186 (ninS ne_185 (ninS ne_184 (ninS ne_183 nin0)))))))))
    have Va_247 : Arv Z T216.heap b4 k4 .int (2:Int32) [(.int (0:Int32)), (.int (0:Int32))] (.int (0:Int32)) := (Va_198.keep K216q (ninS (Nat.ne_of_lt lt_b4_b39) (ninS ne_197 (ninS ne_196 (ninS ne_195 (ninS ne_194 (ninS ne_193 (ninS ne_192 (ninS ne_191 nin0)))))))))
    have Va_248 : Arv Z T216.heap b8 k8 .int (3:Int32) [(.int (0:Int32)), (.int (0:Int32)), (.int (0:Int32))] (.int (0:Int32)) := (Va_206.keep K216q (ninS (Nat.ne_of_lt lt_b8_b39) (ninS ne_205 (ninS ne_204 (ninS ne_203 (ninS ne_202 (ninS ne_201 (ninS ne_200 (ninS ne_199 nin0)))))))))
    have Va_249 : Arv Z T216.heap b13 k13 .int (4:Int32) [(.int (0:Int32)), (.int (0:Int32)), (.int (0:Int32)), (.int (0:Int32))] (.int (0:Int32)) := (Va_214.keep K216q (ninS (Nat.ne_of_lt lt_b13_b39) (ninS ne_213 (ninS ne_212 (ninS ne_211 (ninS ne_210 (ninS ne_209 (ninS ne_208 (ninS ne_207 nin0)))))))))
    obtain ⟨cc2, kc2, hcc2, Vcc2, ltcc2⟩ := own_picked (own_l03 hl2) Va_246 Va_247 Va_248 Va_249 (show b1 < b4 by omega) (show b4 < b8 by omega) (show b8 < b13 by omega) (show b13 < b24 by omega)
    have pre250 : ∀ t, Steps p.tables e below (T244.setTop (mkF m 161 #[.val (.int p0), .val (.int p1), .val (.int p2), .val (.int p3), .val (.int p4), .val (.ref b1), .val (.ref b4), .val (.ref b8), .val (.ref b13), .val (.int (3:Int32)), .val (.int l0), .val (.int l1), .val (.int l2), .val (.int rr), .val (.ref b24), .val (.ref b39), .unset, .unset, .unset, .unset] [(.ref (own_pick l2 b1 b4 b8 b13)), (.ref b24), (.ref b39)])) t → Steps p.tables e below (s₁.setTop (entryFrame m #[(.int p0), (.int p1), (.int p2), (.int p3), (.int p4)] maxLocals)) t := fun t k => pre215 t (by
      show Steps p.tables e below (T181.setTop (mkF m 131 #[.val (.int p0), .val (.int p1), .val (.int p2), .val (.int p3), .val (.int p4), .val (.ref b1), .val (.ref b4), .val (.ref b8), .val (.ref b13), .val (.int (3:Int32)), .val (.int l0), .val (.int l1), .val (.int l2), .val (.int rr), .val (.ref b24), .val (.ref b39), .unset, .unset, .unset, .unset] [(.ref cc1), (.ref b24), (.ref b39)])) _
      refine XS.lconst X181.here hx rfl (hb hby at_131) ?_
      refine XS.lconst X181.here hx rfl (hb hby at_132) ?_
      refine XS.lconst X181.here hx rfl (hb hby at_133) ?_
      show Steps p.tables e below (T181.setTop (mkF m 134 #[.val (.int p0), .val (.int p1), .val (.int p2), .val (.int p3), .val (.int p4), .val (.ref b1), .val (.ref b4), .val (.ref b8), .val (.ref b13), .val (.int (3:Int32)), .val (.int l0), .val (.int l1), .val (.int l2), .val (.int rr), .val (.ref b24), .val (.ref b39), .unset, .unset, .unset, .unset] [(.long (0:Int64)), (.long (0:Int64)), (.long (0:Int64)), (.ref cc1), (.ref b24), (.ref b39)])) _
      refine st216.trans ?_
      show Steps p.tables e below (T216.setTop (mkF m 137 #[.val (.int p0), .val (.int p1), .val (.int p2), .val (.int p3), .val (.int p4), .val (.ref b1), .val (.ref b4), .val (.ref b8), .val (.ref b13), .val (.int (3:Int32)), .val (.int l0), .val (.int l1), .val (.int l2), .val (.int rr), .val (.ref b24), .val (.ref b39), .unset, .unset, .unset, .unset] [(.int (1:Int32))])) _
      refine XS.pop X216.here hx rfl (hb hby at_137) rfl rfl ?_
      refine XS.iload X216.here hx rfl (hb hby at_138) rfl ?_
      refine XS.iconst X216.here hx rfl (hb hby at_140) ?_
      refine XS.icmpNo X216.here hx rfl (hb hby at_141) rfl (tlt ((by decide) : (2:Int32) < (3:Int32))).2.2.2 ?_
      refine XS.aload X216.here hx rfl (hb hby at_144) rfl rfl ?_
      refine XS.aload X216.here hx rfl (hb hby at_146) rfl rfl ?_
      refine XS.iload X216.here hx rfl (hb hby at_148) rfl ?_
      refine XS.aload X216.here hx rfl (hb hby at_150) rfl rfl ?_
      refine XS.aload X216.here hx rfl (hb hby at_152) rfl rfl ?_
      refine XS.aload X216.here hx rfl (hb hby at_154) rfl rfl ?_
      refine XS.aload X216.here hx rfl (hb hby at_156) rfl rfl ?_
      show Steps p.tables e below (T216.setTop (mkF m 158 #[.val (.int p0), .val (.int p1), .val (.int p2), .val (.int p3), .val (.int p4), .val (.ref b1), .val (.ref b4), .val (.ref b8), .val (.ref b13), .val (.int (3:Int32)), .val (.int l0), .val (.int l1), .val (.int l2), .val (.int rr), .val (.ref b24), .val (.ref b39), .unset, .unset, .unset, .unset] [(.ref b13), (.ref b8), (.ref b4), (.ref b1), (.int l2), (.ref b24), (.ref b39)])) _
      refine st244 _ ?_
      exact k)
    rw [← hcc2] at pre250
    have Ee_252 : Exa Z T216.heap b39 "com/example/tavola/tavola/profile/RowBatch" := (Ee_217.keep K216q)
    have Ee_253 : Exa Z T216.heap b24 "com/example/tavola/tavola/profile/CsvReader" := (Ee_218.keep K216q)
    have Ff_254 : Fld Z T216.heap b24 "com/example/tavola/tavola/profile/CsvReader" "ends" "[I" (.ref bn) := (Ff_226.keep K216q (ninS (Nat.ne_of_lt lt_b24_b39) (ninS ne_225 (ninS ne_224 (ninS ne_223 (ninS ne_222 (ninS ne_221 (ninS ne_220 (ninS ne_219 nin0)))))))))
    have Va_255 : Arv Z T216.heap bn kn .int (16:Int32) [] (.int (0:Int32)) := (Va_234.keep K216q (ninS (Nat.ne_of_lt lt_bn_b39) (ninS ne_233 (ninS ne_232 (ninS ne_231 (ninS ne_230 (ninS ne_229 (ninS ne_228 (ninS ne_227 nin0)))))))))
    have Ff_256 : Fld Z T216.heap b24 "com/example/tavola/tavola/profile/CsvReader" "record" "[B" (.ref br) := (Ff_235.keep K216q (ninS (Nat.ne_of_lt lt_b24_b39) (ninS ne_225 (ninS ne_224 (ninS ne_223 (ninS ne_222 (ninS ne_221 (ninS ne_220 (ninS ne_219 nin0)))))))))
    have Aa_257 : own_Arf Z T216.heap br kr .byte (256:Int32) (.int (0:Int32)) := (own_arfK Aa_243 K216q (ninS (Nat.ne_of_lt lt_br_b39) (ninS ne_242 (ninS ne_241 (ninS ne_240 (ninS ne_239 (ninS ne_238 (ninS ne_237 (ninS ne_236 nin0)))))))))
    obtain ⟨cq251, kq251, q251a, q251b, q251c⟩ := isOf hZ e244q (Ee_252)
    obtain ⟨_, _, ⟨T251, L251, k251, n251⟩, -, X251, ⟨Lc251, hQ251, l251, y251, z251⟩, st251⟩ := X244.virtualBack hx (y := (⟨"com/example/tavola/tavola/profile/RowBatch", "add", "(Lcom/example/tavola/tavola/profile/CsvReader;[IJJJ)I"⟩ : MethodName)) (z := (⟨"com/example/tavola/tavola/profile/RowBatch", "add", "(Lcom/example/tavola/tavola/profile/CsvReader;[IJJJ)I"⟩ : MethodName)) hown (mvT hZ (hw _ (oG (i := 60) rfl))) (mvT hZ (hw _ (oG (i := 61) rfl))) (notFace_of_selects (args := #[]) (mvT hZ (hw _ (oG (i := 63) rfl)))) (mvT hZ (hw _ (oG (i := 63) rfl))) (mvT hZ (hw _ (oG (i := 62) rfl))) (by decide) (backOf (W := 0) (rm6_2 l Z aw hw [] b39 b24 cc2 (0:Int64) (0:Int64) (0:Int64) bn br bk be bh bf bg bx bs kn kr kc2 kk ke kh kf kg kx ks (l2 + (1:Int32)) sc (((0:Int32) + ((own_kl (l0 + (1:Int32))).toInt32)) + ((own_kl (l1 + (1:Int32))).toInt32)) ((0:Int32) + ((own_kl (l0 + (1:Int32))).toInt32)) (((0:Int32) + ((own_kl (l0 + (1:Int32))).toInt32)) + ((own_kl (l1 + (1:Int32))).toInt32)) (0:Int32) T216.heap n0 Zz_245 Ee_252 Ee_253 Ff_254 Va_255 Ff_256 Aa_257 Vcc2 Fi0_216 Fi1_216 Fi2_216 Fa0_216 Fa1_216 Fa2_216 Fa3_216 Fa4_216 Fa5_216 Fa6_216 Va0_216 Va1_216 Va2_216 Va3_216 Va4_216 Va5_216 Va6_216 (by omega) (by omega) (by omega) (by omega) (by omega) (by omega) (by omega) (by omega) (by omega) (by omega) (by omega) g_b39 g_bk g_be g_bh g_bf g_bg g_bx g_bs (own_hL (own_l03 hl2)) hsc (own_s2 hl0 hl1).1 (own_s2 hl0 hl1).2) hZ (hw _ (oG (i := 64) rfl)) (hw _ (oG (i := 28) rfl)) (by decide) (by decide)) q251a q251c (g := (mkF m 164 #[.val (.int p0), .val (.int p1), .val (.int p2), .val (.int p3), .val (.int p4), .val (.ref b1), .val (.ref b4), .val (.ref b8), .val (.ref b13), .val (.int (3:Int32)), .val (.int l0), .val (.int l1), .val (.int l2), .val (.int rr), .val (.ref b24), .val (.ref b39), .unset, .unset, .unset, .unset] [(.long (0:Int64)), (.long (0:Int64)), (.long (0:Int64)), (.ref cc2), (.ref b24), (.ref b39)])) rfl (by rw [hml]; rfl) (Steps.refl _) (argsL := [(.ref b24), (.ref cc2), (.long (0:Int64)), (.long (0:Int64)), (.long (0:Int64))]) (rest := []) (lenOf pd_rm0_4 rfl) rfl (by show 2 * 0 + _ ≤ _; exact Nat.le_of_eq rfl) (hb hby at_164) (fun _ _ => ⟨rfl, e244q, (by decide : 17 + 0 ≤ _), (by decide : 139585 + 0 ≤ _)⟩)
    dsimp only [Pt.U, Pt.locs, Pt.cells, Pt.slots] at X251 l251 y251 z251 st251 hQ251
    subst l251 y251 z251
    obtain ⟨rfl, N251q, K251q, Fi0_251, Fi1_251, Fi2_251, Fa0_251, Fa1_251, Fa2_251, Fa3_251, Fa4_251, Fa5_251, Fa6_251, Va0_251, Va1_251, Va2_251, Va3_251, Va4_251, Va5_251, Va6_251⟩ := hQ251
    have N251 := Fr.app N244 N251q
    have pre258 : ∀ t, Steps p.tables e below (T251.setTop (mkF m 168 #[.val (.int p0), .val (.int p1), .val (.int p2), .val (.int p3), .val (.int p4), .val (.ref b1), .val (.ref b4), .val (.ref b8), .val (.ref b13), .val (.int (3:Int32)), .val (.int l0), .val (.int l1), .val (.int l2), .val (.int rr), .val (.ref b24), .val (.ref b39), .unset, .unset, .unset, .unset] [])) t → Steps p.tables e below (s₁.setTop (entryFrame m #[(.int p0), (.int p1), (.int p2), (.int p3), (.int p4)] maxLocals)) t := fun t k => pre250 t (by
      show Steps p.tables e below (T244.setTop (mkF m 161 #[.val (.int p0), .val (.int p1), .val (.int p2), .val (.int p3), .val (.int p4), .val (.ref b1), .val (.ref b4), .val (.ref b8), .val (.ref b13), .val (.int (3:Int32)), .val (.int l0), .val (.int l1), .val (.int l2), .val (.int rr), .val (.ref b24), .val (.ref b39), .unset, .unset, .unset, .unset] [(.ref cc2), (.ref b24), (.ref b39)])) _
      refine XS.lconst X244.here hx rfl (hb hby at_161) ?_
      refine XS.lconst X244.here hx rfl (hb hby at_162) ?_
      refine XS.lconst X244.here hx rfl (hb hby at_163) ?_
      show Steps p.tables e below (T244.setTop (mkF m 164 #[.val (.int p0), .val (.int p1), .val (.int p2), .val (.int p3), .val (.int p4), .val (.ref b1), .val (.ref b4), .val (.ref b8), .val (.ref b13), .val (.int (3:Int32)), .val (.int l0), .val (.int l1), .val (.int l2), .val (.int rr), .val (.ref b24), .val (.ref b39), .unset, .unset, .unset, .unset] [(.long (0:Int64)), (.long (0:Int64)), (.long (0:Int64)), (.ref cc2), (.ref b24), (.ref b39)])) _
      refine st251.trans ?_
      show Steps p.tables e below (T251.setTop (mkF m 167 #[.val (.int p0), .val (.int p1), .val (.int p2), .val (.int p3), .val (.int p4), .val (.ref b1), .val (.ref b4), .val (.ref b8), .val (.ref b13), .val (.int (3:Int32)), .val (.int l0), .val (.int l1), .val (.int l2), .val (.int rr), .val (.ref b24), .val (.ref b39), .unset, .unset, .unset, .unset] [(.int (2:Int32))])) _
      refine XS.pop X251.here hx rfl (hb hby at_167) rfl rfl ?_
      exact k)
    rcases own_rr3 hrr with rfl | rfl | rfl | rfl
    · have Zz_260 : n0 ≤ T251.heap.size := (Nat.le_trans Zz_245 K251q.1)
      have Ee_261 : Exa Z T251.heap b39 "com/example/tavola/tavola/profile/RowBatch" := (Ee_252.keep K251q)
      obtain ⟨cq259, kq259, q259a, q259b, q259c⟩ := isOf hZ rfl (Ee_261)
      obtain ⟨_, _, ⟨T259, L259, k259, n259⟩, -, X259, ⟨Lc259, hQ259, l259, y259, z259⟩, st259⟩ := X251.virtualBack hx (y := (⟨"com/example/tavola/tavola/profile/RowBatch", "keyStart", "(I)I"⟩ : MethodName)) (z := (⟨"com/example/tavola/tavola/profile/RowBatch", "keyStart", "(I)I"⟩ : MethodName)) hown (mvT hZ (hw _ (oG (i := 51) rfl))) (mvT hZ (hw _ (oG (i := 52) rfl))) (notFace_of_selects (args := #[]) (mvT hZ (hw _ (oG (i := 54) rfl)))) (mvT hZ (hw _ (oG (i := 54) rfl))) (mvT hZ (hw _ (oG (i := 53) rfl))) (by decide) (backOf (W := 0) (rm4_0 l Z aw hw [] b39 be ke ((0:Int32) + ((own_kl (l0 + (1:Int32))).toInt32)) (((0:Int32) + ((own_kl (l0 + (1:Int32))).toInt32)) + ((own_kl (l1 + (1:Int32))).toInt32)) ((((0:Int32) + ((own_kl (l0 + (1:Int32))).toInt32)) + ((own_kl (l1 + (1:Int32))).toInt32)) + ((own_kl (l2 + (1:Int32))).toInt32)) T251.heap n0 Zz_260 Fa1_251 Va1_251) hZ (hw _ (oG (i := 55) rfl)) (hw _ (oG (i := 28) rfl)) (by decide) (by decide)) q259a q259c (g := (mkF m 241 #[.val (.int p0), .val (.int p1), .val (.int p2), .val (.int p3), .val (.int p4), .val (.ref b1), .val (.ref b4), .val (.ref b8), .val (.ref b13), .val (.int (3:Int32)), .val (.int l0), .val (.int l1), .val (.int l2), .val (.int (0:Int32)), .val (.ref b24), .val (.ref b39), .val (.int (0:Int32)), .val (.int l0), .unset, .unset] [(.int (0:Int32)), (.ref b39)])) rfl (by rw [hml]; rfl) (Steps.refl _) (argsL := [(.int (0:Int32))]) (rest := []) (lenOf pd_rm0_2 rfl) rfl (by show 2 * 0 + _ ≤ _; exact Nat.le_of_eq rfl) (hb hby at_241) (fun _ _ => ⟨rfl, rfl, (by decide : 17 + 0 ≤ _), (by decide : 139585 + 0 ≤ _)⟩)
      dsimp only [Pt.U, Pt.locs, Pt.cells, Pt.slots] at X259 l259 y259 z259 st259 hQ259
      subst l259 y259 z259
      obtain ⟨rfl, N259q, e259q⟩ := hQ259
      have N259 := Fr.app N251 N259q
      obtain ⟨cq262, kq262, q262a, q262b, q262c⟩ := isOf hZ e259q (Ee_261)
      obtain ⟨_, _, ⟨T262, L262, k262, n262⟩, -, X262, ⟨Lc262, hQ262, l262, y262, z262⟩, st262⟩ := X259.virtualBack hx (y := (⟨"com/example/tavola/tavola/profile/RowBatch", "keyEnd", "(I)I"⟩ : MethodName)) (z := (⟨"com/example/tavola/tavola/profile/RowBatch", "keyEnd", "(I)I"⟩ : MethodName)) hown (mvT hZ (hw _ (oG (i := 99) rfl))) (mvT hZ (hw _ (oG (i := 100) rfl))) (notFace_of_selects (args := #[]) (mvT hZ (hw _ (oG (i := 102) rfl)))) (mvT hZ (hw _ (oG (i := 102) rfl))) (mvT hZ (hw _ (oG (i := 101) rfl))) (by decide) (backOf (W := 0) (rm13_0 l Z aw hw [] b39 be ke ((0:Int32) + ((own_kl (l0 + (1:Int32))).toInt32)) (((0:Int32) + ((own_kl (l0 + (1:Int32))).toInt32)) + ((own_kl (l1 + (1:Int32))).toInt32)) ((((0:Int32) + ((own_kl (l0 + (1:Int32))).toInt32)) + ((own_kl (l1 + (1:Int32))).toInt32)) + ((own_kl (l2 + (1:Int32))).toInt32)) T251.heap n0 Zz_260 Fa1_251 Va1_251) hZ (hw _ (oG (i := 103) rfl)) (hw _ (oG (i := 28) rfl)) (by decide) (by decide)) q262a q262c (g := (mkF m 276 #[.val (.int p0), .val (.int p1), .val (.int p2), .val (.int p3), .val (.int p4), .val (.ref b1), .val (.ref b4), .val (.ref b8), .val (.ref b13), .val (.int (3:Int32)), .val (.int l0), .val (.int l1), .val (.int l2), .val (.int (0:Int32)), .val (.ref b24), .val (.ref b39), .val (.int (0:Int32)), .val (.int l0), .val (.int (0:Int32)), .val (.int (1:Int32))] [(.int (0:Int32)), (.ref b39)])) rfl (by rw [hml]; rfl) (Steps.refl _) (argsL := [(.int (0:Int32))]) (rest := []) (lenOf pd_rm0_2 rfl) rfl (by show 2 * 0 + _ ≤ _; exact Nat.le_of_eq rfl) (hb hby at_276) (fun _ _ => ⟨rfl, e259q, (by decide : 17 + 0 ≤ _), (by decide : 139585 + 0 ≤ _)⟩)
      dsimp only [Pt.U, Pt.locs, Pt.cells, Pt.slots] at X262 l262 y262 z262 st262 hQ262
      subst l262 y262 z262
      obtain ⟨rfl, N262q, e262q⟩ := hQ262
      have N262 := Fr.app N259 N262q
      obtain ⟨fs, hr, hrun, hended, hW, hsame⟩ := X262.leave (v := some (.int (1:Int32))) (fun h => by rw [Bd.returns] at h; cases h)
      refine ⟨_, _, pre258 _ ?_, hrun, hended, _, _, rfl, ?_, ⟨_, rfl⟩, hW, hsame.mono (by decide) (by decide)⟩
      · show Steps p.tables e below (T251.setTop (mkF m 168 #[.val (.int p0), .val (.int p1), .val (.int p2), .val (.int p3), .val (.int p4), .val (.ref b1), .val (.ref b4), .val (.ref b8), .val (.ref b13), .val (.int (3:Int32)), .val (.int l0), .val (.int l1), .val (.int l2), .val (.int (0:Int32)), .val (.ref b24), .val (.ref b39), .unset, .unset, .unset, .unset] [])) _
        refine XS.iload X251.here hx rfl (hb hby at_168) rfl ?_
        refine XS.ifNo X251.here hx rfl (hb hby at_170) rfl ((if0 _ _).trans (teq (rfl : (0:Int32) = (0:Int32))).2) ?_
        refine XS.iconst X251.here hx rfl (hb hby at_173) ?_
        refine XS.goto X251.here hx rfl (pc0 := 174) (pc' := 210) rfl (hb hby at_174) (by decide) (by decide) ?_
        refine XS.istore X251.here hx rfl (hb hby at_210) rfl (l' := #[.val (.int p0), .val (.int p1), .val (.int p2), .val (.int p3), .val (.int p4), .val (.ref b1), .val (.ref b4), .val (.ref b8), .val (.ref b13), .val (.int (3:Int32)), .val (.int l0), .val (.int l1), .val (.int l2), .val (.int (0:Int32)), .val (.ref b24), .val (.ref b39), .val (.int (0:Int32)), .unset, .unset, .unset]) rfl ?_
        refine XS.iload X251.here hx rfl (hb hby at_212) rfl ?_
        refine XS.ifNo X251.here hx rfl (hb hby at_214) rfl ((if0 _ _).trans (teq (rfl : (0:Int32) = (0:Int32))).2) ?_
        refine XS.iload X251.here hx rfl (hb hby at_217) rfl ?_
        refine XS.goto X251.here hx rfl (pc0 := 219) (pc' := 235) rfl (hb hby at_219) (by decide) (by decide) ?_
        refine XS.istore X251.here hx rfl (hb hby at_235) rfl (l' := #[.val (.int p0), .val (.int p1), .val (.int p2), .val (.int p3), .val (.int p4), .val (.ref b1), .val (.ref b4), .val (.ref b8), .val (.ref b13), .val (.int (3:Int32)), .val (.int l0), .val (.int l1), .val (.int l2), .val (.int (0:Int32)), .val (.ref b24), .val (.ref b39), .val (.int (0:Int32)), .val (.int l0), .unset, .unset]) rfl ?_
        refine XS.aload X251.here hx rfl (hb hby at_237) rfl rfl ?_
        refine XS.iload X251.here hx rfl (hb hby at_239) rfl ?_
        show Steps p.tables e below (T251.setTop (mkF m 241 #[.val (.int p0), .val (.int p1), .val (.int p2), .val (.int p3), .val (.int p4), .val (.ref b1), .val (.ref b4), .val (.ref b8), .val (.ref b13), .val (.int (3:Int32)), .val (.int l0), .val (.int l1), .val (.int l2), .val (.int (0:Int32)), .val (.ref b24), .val (.ref b39), .val (.int (0:Int32)), .val (.int l0), .unset, .unset] [(.int (0:Int32)), (.ref b39)])) _
        refine st259.trans ?_
        show Steps p.tables e below (T259.setTop (mkF m 244 #[.val (.int p0), .val (.int p1), .val (.int p2), .val (.int p3), .val (.int p4), .val (.ref b1), .val (.ref b4), .val (.ref b8), .val (.ref b13), .val (.int (3:Int32)), .val (.int l0), .val (.int l1), .val (.int l2), .val (.int (0:Int32)), .val (.ref b24), .val (.ref b39), .val (.int (0:Int32)), .val (.int l0), .unset, .unset] [(.int (0:Int32))])) _
        refine XS.istore X259.here hx rfl (hb hby at_244) rfl (l' := #[.val (.int p0), .val (.int p1), .val (.int p2), .val (.int p3), .val (.int p4), .val (.ref b1), .val (.ref b4), .val (.ref b8), .val (.ref b13), .val (.int (3:Int32)), .val (.int l0), .val (.int l1), .val (.int l2), .val (.int (0:Int32)), .val (.ref b24), .val (.ref b39), .val (.int (0:Int32)), .val (.int l0), .val (.int (0:Int32)), .unset]) rfl ?_
        refine XS.iload X259.here hx rfl (hb hby at_246) rfl ?_
        refine XS.iload X259.here hx rfl (hb hby at_248) rfl ?_
        refine XS.icmpNo X259.here hx rfl (hb hby at_250) rfl (teq ((by decide) : (0:Int32) = (0:Int32))).2 ?_
        refine XS.iconst X259.here hx rfl (hb hby at_253) ?_
        refine XS.goto X259.here hx rfl (pc0 := 254) (pc' := 258) rfl (hb hby at_254) (by decide) (by decide) ?_
        refine XS.istore X259.here hx rfl (hb hby at_258) rfl (l' := #[.val (.int p0), .val (.int p1), .val (.int p2), .val (.int p3), .val (.int p4), .val (.ref b1), .val (.ref b4), .val (.ref b8), .val (.ref b13), .val (.int (3:Int32)), .val (.int l0), .val (.int l1), .val (.int l2), .val (.int (0:Int32)), .val (.ref b24), .val (.ref b39), .val (.int (0:Int32)), .val (.int l0), .val (.int (0:Int32)), .val (.int (1:Int32))]) rfl ?_
        refine XS.iload X259.here hx rfl (hb hby at_260) rfl ?_
        refine XS.iload X259.here hx rfl (hb hby at_262) rfl ?_
        refine XS.icmpNo X259.here hx rfl (hb hby at_264) rfl (tlt ((by decide) : (0:Int32) < (3:Int32))).2.1 ?_
        refine XS.iload X259.here hx rfl (hb hby at_267) rfl ?_
        refine XS.ifNo X259.here hx rfl (hb hby at_269) rfl ((if0 _ _).trans (feq ((by decide) : ¬ ((1:Int32) = (0:Int32)))).1) ?_
        refine XS.aload X259.here hx rfl (hb hby at_272) rfl rfl ?_
        refine XS.iload X259.here hx rfl (hb hby at_274) rfl ?_
        show Steps p.tables e below (T259.setTop (mkF m 276 #[.val (.int p0), .val (.int p1), .val (.int p2), .val (.int p3), .val (.int p4), .val (.ref b1), .val (.ref b4), .val (.ref b8), .val (.ref b13), .val (.int (3:Int32)), .val (.int l0), .val (.int l1), .val (.int l2), .val (.int (0:Int32)), .val (.ref b24), .val (.ref b39), .val (.int (0:Int32)), .val (.int l0), .val (.int (0:Int32)), .val (.int (1:Int32))] [(.int (0:Int32)), (.ref b39)])) _
        refine st262.trans ?_
        show Steps p.tables e below (T262.setTop (mkF m 279 #[.val (.int p0), .val (.int p1), .val (.int p2), .val (.int p3), .val (.int p4), .val (.ref b1), .val (.ref b4), .val (.ref b8), .val (.ref b13), .val (.int (3:Int32)), .val (.int l0), .val (.int l1), .val (.int l2), .val (.int (0:Int32)), .val (.ref b24), .val (.ref b39), .val (.int (0:Int32)), .val (.int l0), .val (.int (0:Int32)), .val (.int (1:Int32))] [(.int ((0:Int32) + ((own_kl (l0 + (1:Int32))).toInt32)))])) _
        refine XS.iload X262.here hx rfl (hb hby at_279) rfl ?_
        refine XS.isub X262.here hx rfl (hb hby at_281) rfl ?_
        refine XS.iload X262.here hx rfl (hb hby at_282) rfl ?_
        refine XS.icmpNo X262.here hx rfl (hb hby at_284) rfl (teq ((own_fin1 (fun l0 => (((0:Int32) + ((own_kl (l0 + (1:Int32))).toInt32)) - (0:Int32)) = l0) (by decide) (own_l03 hl0)) : (((0:Int32) + ((own_kl (l0 + (1:Int32))).toInt32)) - (0:Int32)) = l0)).2 ?_
        refine XS.iconst X262.here hx rfl (hb hby at_287) ?_
        refine XS.goto X262.here hx rfl (pc0 := 288) (pc' := 292) rfl (hb hby at_288) (by decide) (by decide) ?_
        refine XS.istore X262.here hx rfl (hb hby at_292) rfl (l' := #[.val (.int p0), .val (.int p1), .val (.int p2), .val (.int p3), .val (.int p4), .val (.ref b1), .val (.ref b4), .val (.ref b8), .val (.ref b13), .val (.int (3:Int32)), .val (.int l0), .val (.int l1), .val (.int l2), .val (.int (0:Int32)), .val (.ref b24), .val (.ref b39), .val (.int (0:Int32)), .val (.int l0), .val (.int (0:Int32)), .val (.int (1:Int32))]) rfl ?_
        refine XS.iload X262.here hx rfl (hb hby at_294) rfl ?_
        show Steps p.tables e below (T262.setTop (mkF m 296 #[.val (.int p0), .val (.int p1), .val (.int p2), .val (.int p3), .val (.int p4), .val (.ref b1), .val (.ref b4), .val (.ref b8), .val (.ref b13), .val (.int (3:Int32)), .val (.int l0), .val (.int l1), .val (.int l2), .val (.int (0:Int32)), .val (.ref b24), .val (.ref b39), .val (.int (0:Int32)), .val (.int l0), .val (.int (0:Int32)), .val (.int (1:Int32))] [(.int (1:Int32))])) _
        exact retN X262 hx (t := .boolean) Bd.returns (by simp) (hb hby at_296) hr
      · show rm0Q Z p0 p1 p2 p3 p4 h0 n0 _ T262.heap _
        rw [e262q]
        exact ⟨rfl, N262⟩
    · have Zz_264 : n0 ≤ T251.heap.size := (Nat.le_trans Zz_245 K251q.1)
      have Ee_265 : Exa Z T251.heap b39 "com/example/tavola/tavola/profile/RowBatch" := (Ee_252.keep K251q)
      obtain ⟨cq263, kq263, q263a, q263b, q263c⟩ := isOf hZ rfl (Ee_265)
      obtain ⟨_, _, ⟨T263, L263, k263, n263⟩, -, X263, ⟨Lc263, hQ263, l263, y263, z263⟩, st263⟩ := X251.virtualBack hx (y := (⟨"com/example/tavola/tavola/profile/RowBatch", "keyStart", "(I)I"⟩ : MethodName)) (z := (⟨"com/example/tavola/tavola/profile/RowBatch", "keyStart", "(I)I"⟩ : MethodName)) hown (mvT hZ (hw _ (oG (i := 51) rfl))) (mvT hZ (hw _ (oG (i := 52) rfl))) (notFace_of_selects (args := #[]) (mvT hZ (hw _ (oG (i := 54) rfl)))) (mvT hZ (hw _ (oG (i := 54) rfl))) (mvT hZ (hw _ (oG (i := 53) rfl))) (by decide) (backOf (W := 0) (rm4_1 l Z aw hw [] b39 be ke ((0:Int32) + ((own_kl (l0 + (1:Int32))).toInt32)) (((0:Int32) + ((own_kl (l0 + (1:Int32))).toInt32)) + ((own_kl (l1 + (1:Int32))).toInt32)) ((((0:Int32) + ((own_kl (l0 + (1:Int32))).toInt32)) + ((own_kl (l1 + (1:Int32))).toInt32)) + ((own_kl (l2 + (1:Int32))).toInt32)) T251.heap n0 Zz_264 Fa1_251 Va1_251) hZ (hw _ (oG (i := 55) rfl)) (hw _ (oG (i := 28) rfl)) (by decide) (by decide)) q263a q263c (g := (mkF m 241 #[.val (.int p0), .val (.int p1), .val (.int p2), .val (.int p3), .val (.int p4), .val (.ref b1), .val (.ref b4), .val (.ref b8), .val (.ref b13), .val (.int (3:Int32)), .val (.int l0), .val (.int l1), .val (.int l2), .val (.int (1:Int32)), .val (.ref b24), .val (.ref b39), .val (.int l0), .val (.int l1), .unset, .unset] [(.int (1:Int32)), (.ref b39)])) rfl (by rw [hml]; rfl) (Steps.refl _) (argsL := [(.int (1:Int32))]) (rest := []) (lenOf pd_rm0_2 rfl) rfl (by show 2 * 0 + _ ≤ _; exact Nat.le_of_eq rfl) (hb hby at_241) (fun _ _ => ⟨rfl, rfl, (by decide : 17 + 0 ≤ _), (by decide : 139585 + 0 ≤ _)⟩)
      dsimp only [Pt.U, Pt.locs, Pt.cells, Pt.slots] at X263 l263 y263 z263 st263 hQ263
      subst l263 y263 z263
      obtain ⟨rfl, N263q, e263q⟩ := hQ263
      have N263 := Fr.app N251 N263q
      obtain ⟨cq266, kq266, q266a, q266b, q266c⟩ := isOf hZ e263q (Ee_265)
      obtain ⟨_, _, ⟨T266, L266, k266, n266⟩, -, X266, ⟨Lc266, hQ266, l266, y266, z266⟩, st266⟩ := X263.virtualBack hx (y := (⟨"com/example/tavola/tavola/profile/RowBatch", "keyEnd", "(I)I"⟩ : MethodName)) (z := (⟨"com/example/tavola/tavola/profile/RowBatch", "keyEnd", "(I)I"⟩ : MethodName)) hown (mvT hZ (hw _ (oG (i := 99) rfl))) (mvT hZ (hw _ (oG (i := 100) rfl))) (notFace_of_selects (args := #[]) (mvT hZ (hw _ (oG (i := 102) rfl)))) (mvT hZ (hw _ (oG (i := 102) rfl))) (mvT hZ (hw _ (oG (i := 101) rfl))) (by decide) (backOf (W := 0) (rm13_1 l Z aw hw [] b39 be ke ((0:Int32) + ((own_kl (l0 + (1:Int32))).toInt32)) (((0:Int32) + ((own_kl (l0 + (1:Int32))).toInt32)) + ((own_kl (l1 + (1:Int32))).toInt32)) ((((0:Int32) + ((own_kl (l0 + (1:Int32))).toInt32)) + ((own_kl (l1 + (1:Int32))).toInt32)) + ((own_kl (l2 + (1:Int32))).toInt32)) T251.heap n0 Zz_264 Fa1_251 Va1_251) hZ (hw _ (oG (i := 103) rfl)) (hw _ (oG (i := 28) rfl)) (by decide) (by decide)) q266a q266c (g := (mkF m 276 #[.val (.int p0), .val (.int p1), .val (.int p2), .val (.int p3), .val (.int p4), .val (.ref b1), .val (.ref b4), .val (.ref b8), .val (.ref b13), .val (.int (3:Int32)), .val (.int l0), .val (.int l1), .val (.int l2), .val (.int (1:Int32)), .val (.ref b24), .val (.ref b39), .val (.int l0), .val (.int l1), .val (.int ((0:Int32) + ((own_kl (l0 + (1:Int32))).toInt32))), .val (.int (1:Int32))] [(.int (1:Int32)), (.ref b39)])) rfl (by rw [hml]; rfl) (Steps.refl _) (argsL := [(.int (1:Int32))]) (rest := []) (lenOf pd_rm0_2 rfl) rfl (by show 2 * 0 + _ ≤ _; exact Nat.le_of_eq rfl) (hb hby at_276) (fun _ _ => ⟨rfl, e263q, (by decide : 17 + 0 ≤ _), (by decide : 139585 + 0 ≤ _)⟩)
      dsimp only [Pt.U, Pt.locs, Pt.cells, Pt.slots] at X266 l266 y266 z266 st266 hQ266
      subst l266 y266 z266
      obtain ⟨rfl, N266q, e266q⟩ := hQ266
      have N266 := Fr.app N263 N266q
      obtain ⟨fs, hr, hrun, hended, hW, hsame⟩ := X266.leave (v := some (.int (1:Int32))) (fun h => by rw [Bd.returns] at h; cases h)
      refine ⟨_, _, pre258 _ ?_, hrun, hended, _, _, rfl, ?_, ⟨_, rfl⟩, hW, hsame.mono (by decide) (by decide)⟩
      · show Steps p.tables e below (T251.setTop (mkF m 168 #[.val (.int p0), .val (.int p1), .val (.int p2), .val (.int p3), .val (.int p4), .val (.ref b1), .val (.ref b4), .val (.ref b8), .val (.ref b13), .val (.int (3:Int32)), .val (.int l0), .val (.int l1), .val (.int l2), .val (.int (1:Int32)), .val (.ref b24), .val (.ref b39), .unset, .unset, .unset, .unset] [])) _
        refine XS.iload X251.here hx rfl (hb hby at_168) rfl ?_
        refine XS.ifYes X251.here hx rfl (pc0 := 170) (pc' := 177) rfl (hb hby at_170) rfl ((if0 _ _).trans (feq ((by decide) : ¬ ((1:Int32) = (0:Int32)))).2) (by decide) (by decide) ?_
        refine XS.iload X251.here hx rfl (hb hby at_177) rfl ?_
        refine XS.iconst X251.here hx rfl (hb hby at_179) ?_
        refine XS.icmpNo X251.here hx rfl (hb hby at_180) rfl (teq (rfl : (1:Int32) = (1:Int32))).2 ?_
        refine XS.iload X251.here hx rfl (hb hby at_183) rfl ?_
        refine XS.goto X251.here hx rfl (pc0 := 185) (pc' := 210) rfl (hb hby at_185) (by decide) (by decide) ?_
        refine XS.istore X251.here hx rfl (hb hby at_210) rfl (l' := #[.val (.int p0), .val (.int p1), .val (.int p2), .val (.int p3), .val (.int p4), .val (.ref b1), .val (.ref b4), .val (.ref b8), .val (.ref b13), .val (.int (3:Int32)), .val (.int l0), .val (.int l1), .val (.int l2), .val (.int (1:Int32)), .val (.ref b24), .val (.ref b39), .val (.int l0), .unset, .unset, .unset]) rfl ?_
        refine XS.iload X251.here hx rfl (hb hby at_212) rfl ?_
        refine XS.ifYes X251.here hx rfl (pc0 := 214) (pc' := 222) rfl (hb hby at_214) rfl ((if0 _ _).trans (feq ((by decide) : ¬ ((1:Int32) = (0:Int32)))).2) (by decide) (by decide) ?_
        refine XS.iload X251.here hx rfl (hb hby at_222) rfl ?_
        refine XS.iconst X251.here hx rfl (hb hby at_224) ?_
        refine XS.icmpNo X251.here hx rfl (hb hby at_225) rfl (teq (rfl : (1:Int32) = (1:Int32))).2 ?_
        refine XS.iload X251.here hx rfl (hb hby at_228) rfl ?_
        refine XS.goto X251.here hx rfl (pc0 := 230) (pc' := 235) rfl (hb hby at_230) (by decide) (by decide) ?_
        refine XS.istore X251.here hx rfl (hb hby at_235) rfl (l' := #[.val (.int p0), .val (.int p1), .val (.int p2), .val (.int p3), .val (.int p4), .val (.ref b1), .val (.ref b4), .val (.ref b8), .val (.ref b13), .val (.int (3:Int32)), .val (.int l0), .val (.int l1), .val (.int l2), .val (.int (1:Int32)), .val (.ref b24), .val (.ref b39), .val (.int l0), .val (.int l1), .unset, .unset]) rfl ?_
        refine XS.aload X251.here hx rfl (hb hby at_237) rfl rfl ?_
        refine XS.iload X251.here hx rfl (hb hby at_239) rfl ?_
        show Steps p.tables e below (T251.setTop (mkF m 241 #[.val (.int p0), .val (.int p1), .val (.int p2), .val (.int p3), .val (.int p4), .val (.ref b1), .val (.ref b4), .val (.ref b8), .val (.ref b13), .val (.int (3:Int32)), .val (.int l0), .val (.int l1), .val (.int l2), .val (.int (1:Int32)), .val (.ref b24), .val (.ref b39), .val (.int l0), .val (.int l1), .unset, .unset] [(.int (1:Int32)), (.ref b39)])) _
        refine st263.trans ?_
        show Steps p.tables e below (T263.setTop (mkF m 244 #[.val (.int p0), .val (.int p1), .val (.int p2), .val (.int p3), .val (.int p4), .val (.ref b1), .val (.ref b4), .val (.ref b8), .val (.ref b13), .val (.int (3:Int32)), .val (.int l0), .val (.int l1), .val (.int l2), .val (.int (1:Int32)), .val (.ref b24), .val (.ref b39), .val (.int l0), .val (.int l1), .unset, .unset] [(.int ((0:Int32) + ((own_kl (l0 + (1:Int32))).toInt32)))])) _
        refine XS.istore X263.here hx rfl (hb hby at_244) rfl (l' := #[.val (.int p0), .val (.int p1), .val (.int p2), .val (.int p3), .val (.int p4), .val (.ref b1), .val (.ref b4), .val (.ref b8), .val (.ref b13), .val (.int (3:Int32)), .val (.int l0), .val (.int l1), .val (.int l2), .val (.int (1:Int32)), .val (.ref b24), .val (.ref b39), .val (.int l0), .val (.int l1), .val (.int ((0:Int32) + ((own_kl (l0 + (1:Int32))).toInt32))), .unset]) rfl ?_
        refine XS.iload X263.here hx rfl (hb hby at_246) rfl ?_
        refine XS.iload X263.here hx rfl (hb hby at_248) rfl ?_
        refine XS.icmpNo X263.here hx rfl (hb hby at_250) rfl (teq ((own_fin1 (fun l0 => ((0:Int32) + ((own_kl (l0 + (1:Int32))).toInt32)) = l0) (by decide) (own_l03 hl0)) : ((0:Int32) + ((own_kl (l0 + (1:Int32))).toInt32)) = l0)).2 ?_
        refine XS.iconst X263.here hx rfl (hb hby at_253) ?_
        refine XS.goto X263.here hx rfl (pc0 := 254) (pc' := 258) rfl (hb hby at_254) (by decide) (by decide) ?_
        refine XS.istore X263.here hx rfl (hb hby at_258) rfl (l' := #[.val (.int p0), .val (.int p1), .val (.int p2), .val (.int p3), .val (.int p4), .val (.ref b1), .val (.ref b4), .val (.ref b8), .val (.ref b13), .val (.int (3:Int32)), .val (.int l0), .val (.int l1), .val (.int l2), .val (.int (1:Int32)), .val (.ref b24), .val (.ref b39), .val (.int l0), .val (.int l1), .val (.int ((0:Int32) + ((own_kl (l0 + (1:Int32))).toInt32))), .val (.int (1:Int32))]) rfl ?_
        refine XS.iload X263.here hx rfl (hb hby at_260) rfl ?_
        refine XS.iload X263.here hx rfl (hb hby at_262) rfl ?_
        refine XS.icmpNo X263.here hx rfl (hb hby at_264) rfl (tlt ((by decide) : (1:Int32) < (3:Int32))).2.1 ?_
        refine XS.iload X263.here hx rfl (hb hby at_267) rfl ?_
        refine XS.ifNo X263.here hx rfl (hb hby at_269) rfl ((if0 _ _).trans (feq ((by decide) : ¬ ((1:Int32) = (0:Int32)))).1) ?_
        refine XS.aload X263.here hx rfl (hb hby at_272) rfl rfl ?_
        refine XS.iload X263.here hx rfl (hb hby at_274) rfl ?_
        show Steps p.tables e below (T263.setTop (mkF m 276 #[.val (.int p0), .val (.int p1), .val (.int p2), .val (.int p3), .val (.int p4), .val (.ref b1), .val (.ref b4), .val (.ref b8), .val (.ref b13), .val (.int (3:Int32)), .val (.int l0), .val (.int l1), .val (.int l2), .val (.int (1:Int32)), .val (.ref b24), .val (.ref b39), .val (.int l0), .val (.int l1), .val (.int ((0:Int32) + ((own_kl (l0 + (1:Int32))).toInt32))), .val (.int (1:Int32))] [(.int (1:Int32)), (.ref b39)])) _
        refine st266.trans ?_
        show Steps p.tables e below (T266.setTop (mkF m 279 #[.val (.int p0), .val (.int p1), .val (.int p2), .val (.int p3), .val (.int p4), .val (.ref b1), .val (.ref b4), .val (.ref b8), .val (.ref b13), .val (.int (3:Int32)), .val (.int l0), .val (.int l1), .val (.int l2), .val (.int (1:Int32)), .val (.ref b24), .val (.ref b39), .val (.int l0), .val (.int l1), .val (.int ((0:Int32) + ((own_kl (l0 + (1:Int32))).toInt32))), .val (.int (1:Int32))] [(.int (((0:Int32) + ((own_kl (l0 + (1:Int32))).toInt32)) + ((own_kl (l1 + (1:Int32))).toInt32)))])) _
        refine XS.iload X266.here hx rfl (hb hby at_279) rfl ?_
        refine XS.isub X266.here hx rfl (hb hby at_281) rfl ?_
        refine XS.iload X266.here hx rfl (hb hby at_282) rfl ?_
        refine XS.icmpNo X266.here hx rfl (hb hby at_284) rfl (teq ((own_fin2 (fun l0 l1 => ((((0:Int32) + ((own_kl (l0 + (1:Int32))).toInt32)) + ((own_kl (l1 + (1:Int32))).toInt32)) - ((0:Int32) + ((own_kl (l0 + (1:Int32))).toInt32))) = l1) (by decide) (own_l03 hl0) (own_l03 hl1)) : ((((0:Int32) + ((own_kl (l0 + (1:Int32))).toInt32)) + ((own_kl (l1 + (1:Int32))).toInt32)) - ((0:Int32) + ((own_kl (l0 + (1:Int32))).toInt32))) = l1)).2 ?_
        refine XS.iconst X266.here hx rfl (hb hby at_287) ?_
        refine XS.goto X266.here hx rfl (pc0 := 288) (pc' := 292) rfl (hb hby at_288) (by decide) (by decide) ?_
        refine XS.istore X266.here hx rfl (hb hby at_292) rfl (l' := #[.val (.int p0), .val (.int p1), .val (.int p2), .val (.int p3), .val (.int p4), .val (.ref b1), .val (.ref b4), .val (.ref b8), .val (.ref b13), .val (.int (3:Int32)), .val (.int l0), .val (.int l1), .val (.int l2), .val (.int (1:Int32)), .val (.ref b24), .val (.ref b39), .val (.int l0), .val (.int l1), .val (.int ((0:Int32) + ((own_kl (l0 + (1:Int32))).toInt32))), .val (.int (1:Int32))]) rfl ?_
        refine XS.iload X266.here hx rfl (hb hby at_294) rfl ?_
        show Steps p.tables e below (T266.setTop (mkF m 296 #[.val (.int p0), .val (.int p1), .val (.int p2), .val (.int p3), .val (.int p4), .val (.ref b1), .val (.ref b4), .val (.ref b8), .val (.ref b13), .val (.int (3:Int32)), .val (.int l0), .val (.int l1), .val (.int l2), .val (.int (1:Int32)), .val (.ref b24), .val (.ref b39), .val (.int l0), .val (.int l1), .val (.int ((0:Int32) + ((own_kl (l0 + (1:Int32))).toInt32))), .val (.int (1:Int32))] [(.int (1:Int32))])) _
        exact retN X266 hx (t := .boolean) Bd.returns (by simp) (hb hby at_296) hr
      · show rm0Q Z p0 p1 p2 p3 p4 h0 n0 _ T266.heap _
        rw [e266q]
        exact ⟨rfl, N266⟩
    · have Zz_268 : n0 ≤ T251.heap.size := (Nat.le_trans Zz_245 K251q.1)
      have Ee_269 : Exa Z T251.heap b39 "com/example/tavola/tavola/profile/RowBatch" := (Ee_252.keep K251q)
      obtain ⟨cq267, kq267, q267a, q267b, q267c⟩ := isOf hZ rfl (Ee_269)
      obtain ⟨_, _, ⟨T267, L267, k267, n267⟩, -, X267, ⟨Lc267, hQ267, l267, y267, z267⟩, st267⟩ := X251.virtualBack hx (y := (⟨"com/example/tavola/tavola/profile/RowBatch", "keyStart", "(I)I"⟩ : MethodName)) (z := (⟨"com/example/tavola/tavola/profile/RowBatch", "keyStart", "(I)I"⟩ : MethodName)) hown (mvT hZ (hw _ (oG (i := 51) rfl))) (mvT hZ (hw _ (oG (i := 52) rfl))) (notFace_of_selects (args := #[]) (mvT hZ (hw _ (oG (i := 54) rfl)))) (mvT hZ (hw _ (oG (i := 54) rfl))) (mvT hZ (hw _ (oG (i := 53) rfl))) (by decide) (backOf (W := 0) (rm4_2 l Z aw hw [] b39 be ke ((0:Int32) + ((own_kl (l0 + (1:Int32))).toInt32)) (((0:Int32) + ((own_kl (l0 + (1:Int32))).toInt32)) + ((own_kl (l1 + (1:Int32))).toInt32)) ((((0:Int32) + ((own_kl (l0 + (1:Int32))).toInt32)) + ((own_kl (l1 + (1:Int32))).toInt32)) + ((own_kl (l2 + (1:Int32))).toInt32)) T251.heap n0 Zz_268 Fa1_251 Va1_251) hZ (hw _ (oG (i := 55) rfl)) (hw _ (oG (i := 28) rfl)) (by decide) (by decide)) q267a q267c (g := (mkF m 241 #[.val (.int p0), .val (.int p1), .val (.int p2), .val (.int p3), .val (.int p4), .val (.ref b1), .val (.ref b4), .val (.ref b8), .val (.ref b13), .val (.int (3:Int32)), .val (.int l0), .val (.int l1), .val (.int l2), .val (.int (2:Int32)), .val (.ref b24), .val (.ref b39), .val (.int (l0 + l1)), .val (.int l2), .unset, .unset] [(.int (2:Int32)), (.ref b39)])) rfl (by rw [hml]; rfl) (Steps.refl _) (argsL := [(.int (2:Int32))]) (rest := []) (lenOf pd_rm0_2 rfl) rfl (by show 2 * 0 + _ ≤ _; exact Nat.le_of_eq rfl) (hb hby at_241) (fun _ _ => ⟨rfl, rfl, (by decide : 17 + 0 ≤ _), (by decide : 139585 + 0 ≤ _)⟩)
      dsimp only [Pt.U, Pt.locs, Pt.cells, Pt.slots] at X267 l267 y267 z267 st267 hQ267
      subst l267 y267 z267
      obtain ⟨rfl, N267q, e267q⟩ := hQ267
      have N267 := Fr.app N251 N267q
      obtain ⟨cq270, kq270, q270a, q270b, q270c⟩ := isOf hZ e267q (Ee_269)
      obtain ⟨_, _, ⟨T270, L270, k270, n270⟩, -, X270, ⟨Lc270, hQ270, l270, y270, z270⟩, st270⟩ := X267.virtualBack hx (y := (⟨"com/example/tavola/tavola/profile/RowBatch", "keyEnd", "(I)I"⟩ : MethodName)) (z := (⟨"com/example/tavola/tavola/profile/RowBatch", "keyEnd", "(I)I"⟩ : MethodName)) hown (mvT hZ (hw _ (oG (i := 99) rfl))) (mvT hZ (hw _ (oG (i := 100) rfl))) (notFace_of_selects (args := #[]) (mvT hZ (hw _ (oG (i := 102) rfl)))) (mvT hZ (hw _ (oG (i := 102) rfl))) (mvT hZ (hw _ (oG (i := 101) rfl))) (by decide) (backOf (W := 0) (rm13_2 l Z aw hw [] b39 be ke ((0:Int32) + ((own_kl (l0 + (1:Int32))).toInt32)) (((0:Int32) + ((own_kl (l0 + (1:Int32))).toInt32)) + ((own_kl (l1 + (1:Int32))).toInt32)) ((((0:Int32) + ((own_kl (l0 + (1:Int32))).toInt32)) + ((own_kl (l1 + (1:Int32))).toInt32)) + ((own_kl (l2 + (1:Int32))).toInt32)) T251.heap n0 Zz_268 Fa1_251 Va1_251) hZ (hw _ (oG (i := 103) rfl)) (hw _ (oG (i := 28) rfl)) (by decide) (by decide)) q270a q270c (g := (mkF m 276 #[.val (.int p0), .val (.int p1), .val (.int p2), .val (.int p3), .val (.int p4), .val (.ref b1), .val (.ref b4), .val (.ref b8), .val (.ref b13), .val (.int (3:Int32)), .val (.int l0), .val (.int l1), .val (.int l2), .val (.int (2:Int32)), .val (.ref b24), .val (.ref b39), .val (.int (l0 + l1)), .val (.int l2), .val (.int (((0:Int32) + ((own_kl (l0 + (1:Int32))).toInt32)) + ((own_kl (l1 + (1:Int32))).toInt32))), .val (.int (1:Int32))] [(.int (2:Int32)), (.ref b39)])) rfl (by rw [hml]; rfl) (Steps.refl _) (argsL := [(.int (2:Int32))]) (rest := []) (lenOf pd_rm0_2 rfl) rfl (by show 2 * 0 + _ ≤ _; exact Nat.le_of_eq rfl) (hb hby at_276) (fun _ _ => ⟨rfl, e267q, (by decide : 17 + 0 ≤ _), (by decide : 139585 + 0 ≤ _)⟩)
      dsimp only [Pt.U, Pt.locs, Pt.cells, Pt.slots] at X270 l270 y270 z270 st270 hQ270
      subst l270 y270 z270
      obtain ⟨rfl, N270q, e270q⟩ := hQ270
      have N270 := Fr.app N267 N270q
      obtain ⟨fs, hr, hrun, hended, hW, hsame⟩ := X270.leave (v := some (.int (1:Int32))) (fun h => by rw [Bd.returns] at h; cases h)
      refine ⟨_, _, pre258 _ ?_, hrun, hended, _, _, rfl, ?_, ⟨_, rfl⟩, hW, hsame.mono (by decide) (by decide)⟩
      · show Steps p.tables e below (T251.setTop (mkF m 168 #[.val (.int p0), .val (.int p1), .val (.int p2), .val (.int p3), .val (.int p4), .val (.ref b1), .val (.ref b4), .val (.ref b8), .val (.ref b13), .val (.int (3:Int32)), .val (.int l0), .val (.int l1), .val (.int l2), .val (.int (2:Int32)), .val (.ref b24), .val (.ref b39), .unset, .unset, .unset, .unset] [])) _
        refine XS.iload X251.here hx rfl (hb hby at_168) rfl ?_
        refine XS.ifYes X251.here hx rfl (pc0 := 170) (pc' := 177) rfl (hb hby at_170) rfl ((if0 _ _).trans (feq ((by decide) : ¬ ((2:Int32) = (0:Int32)))).2) (by decide) (by decide) ?_
        refine XS.iload X251.here hx rfl (hb hby at_177) rfl ?_
        refine XS.iconst X251.here hx rfl (hb hby at_179) ?_
        refine XS.icmpYes X251.here hx rfl (pc0 := 180) (pc' := 188) rfl (hb hby at_180) rfl (feq ((by decide) : ¬ ((2:Int32) = (1:Int32)))).2 (by decide) (by decide) ?_
        refine XS.iload X251.here hx rfl (hb hby at_188) rfl ?_
        refine XS.iconst X251.here hx rfl (hb hby at_190) ?_
        refine XS.icmpNo X251.here hx rfl (hb hby at_191) rfl (teq (rfl : (2:Int32) = (2:Int32))).2 ?_
        refine XS.iload X251.here hx rfl (hb hby at_194) rfl ?_
        refine XS.iload X251.here hx rfl (hb hby at_196) rfl ?_
        refine XS.iadd X251.here hx rfl (hb hby at_198) rfl ?_
        refine XS.goto X251.here hx rfl (pc0 := 199) (pc' := 210) rfl (hb hby at_199) (by decide) (by decide) ?_
        refine XS.istore X251.here hx rfl (hb hby at_210) rfl (l' := #[.val (.int p0), .val (.int p1), .val (.int p2), .val (.int p3), .val (.int p4), .val (.ref b1), .val (.ref b4), .val (.ref b8), .val (.ref b13), .val (.int (3:Int32)), .val (.int l0), .val (.int l1), .val (.int l2), .val (.int (2:Int32)), .val (.ref b24), .val (.ref b39), .val (.int (l0 + l1)), .unset, .unset, .unset]) rfl ?_
        refine XS.iload X251.here hx rfl (hb hby at_212) rfl ?_
        refine XS.ifYes X251.here hx rfl (pc0 := 214) (pc' := 222) rfl (hb hby at_214) rfl ((if0 _ _).trans (feq ((by decide) : ¬ ((2:Int32) = (0:Int32)))).2) (by decide) (by decide) ?_
        refine XS.iload X251.here hx rfl (hb hby at_222) rfl ?_
        refine XS.iconst X251.here hx rfl (hb hby at_224) ?_
        refine XS.icmpYes X251.here hx rfl (pc0 := 225) (pc' := 233) rfl (hb hby at_225) rfl (feq ((by decide) : ¬ ((2:Int32) = (1:Int32)))).2 (by decide) (by decide) ?_
        refine XS.iload X251.here hx rfl (hb hby at_233) rfl ?_
        refine XS.istore X251.here hx rfl (hb hby at_235) rfl (l' := #[.val (.int p0), .val (.int p1), .val (.int p2), .val (.int p3), .val (.int p4), .val (.ref b1), .val (.ref b4), .val (.ref b8), .val (.ref b13), .val (.int (3:Int32)), .val (.int l0), .val (.int l1), .val (.int l2), .val (.int (2:Int32)), .val (.ref b24), .val (.ref b39), .val (.int (l0 + l1)), .val (.int l2), .unset, .unset]) rfl ?_
        refine XS.aload X251.here hx rfl (hb hby at_237) rfl rfl ?_
        refine XS.iload X251.here hx rfl (hb hby at_239) rfl ?_
        show Steps p.tables e below (T251.setTop (mkF m 241 #[.val (.int p0), .val (.int p1), .val (.int p2), .val (.int p3), .val (.int p4), .val (.ref b1), .val (.ref b4), .val (.ref b8), .val (.ref b13), .val (.int (3:Int32)), .val (.int l0), .val (.int l1), .val (.int l2), .val (.int (2:Int32)), .val (.ref b24), .val (.ref b39), .val (.int (l0 + l1)), .val (.int l2), .unset, .unset] [(.int (2:Int32)), (.ref b39)])) _
        refine st267.trans ?_
        show Steps p.tables e below (T267.setTop (mkF m 244 #[.val (.int p0), .val (.int p1), .val (.int p2), .val (.int p3), .val (.int p4), .val (.ref b1), .val (.ref b4), .val (.ref b8), .val (.ref b13), .val (.int (3:Int32)), .val (.int l0), .val (.int l1), .val (.int l2), .val (.int (2:Int32)), .val (.ref b24), .val (.ref b39), .val (.int (l0 + l1)), .val (.int l2), .unset, .unset] [(.int (((0:Int32) + ((own_kl (l0 + (1:Int32))).toInt32)) + ((own_kl (l1 + (1:Int32))).toInt32)))])) _
        refine XS.istore X267.here hx rfl (hb hby at_244) rfl (l' := #[.val (.int p0), .val (.int p1), .val (.int p2), .val (.int p3), .val (.int p4), .val (.ref b1), .val (.ref b4), .val (.ref b8), .val (.ref b13), .val (.int (3:Int32)), .val (.int l0), .val (.int l1), .val (.int l2), .val (.int (2:Int32)), .val (.ref b24), .val (.ref b39), .val (.int (l0 + l1)), .val (.int l2), .val (.int (((0:Int32) + ((own_kl (l0 + (1:Int32))).toInt32)) + ((own_kl (l1 + (1:Int32))).toInt32))), .unset]) rfl ?_
        refine XS.iload X267.here hx rfl (hb hby at_246) rfl ?_
        refine XS.iload X267.here hx rfl (hb hby at_248) rfl ?_
        refine XS.icmpNo X267.here hx rfl (hb hby at_250) rfl (teq ((own_fin2 (fun l0 l1 => (((0:Int32) + ((own_kl (l0 + (1:Int32))).toInt32)) + ((own_kl (l1 + (1:Int32))).toInt32)) = (l0 + l1)) (by decide) (own_l03 hl0) (own_l03 hl1)) : (((0:Int32) + ((own_kl (l0 + (1:Int32))).toInt32)) + ((own_kl (l1 + (1:Int32))).toInt32)) = (l0 + l1))).2 ?_
        refine XS.iconst X267.here hx rfl (hb hby at_253) ?_
        refine XS.goto X267.here hx rfl (pc0 := 254) (pc' := 258) rfl (hb hby at_254) (by decide) (by decide) ?_
        refine XS.istore X267.here hx rfl (hb hby at_258) rfl (l' := #[.val (.int p0), .val (.int p1), .val (.int p2), .val (.int p3), .val (.int p4), .val (.ref b1), .val (.ref b4), .val (.ref b8), .val (.ref b13), .val (.int (3:Int32)), .val (.int l0), .val (.int l1), .val (.int l2), .val (.int (2:Int32)), .val (.ref b24), .val (.ref b39), .val (.int (l0 + l1)), .val (.int l2), .val (.int (((0:Int32) + ((own_kl (l0 + (1:Int32))).toInt32)) + ((own_kl (l1 + (1:Int32))).toInt32))), .val (.int (1:Int32))]) rfl ?_
        refine XS.iload X267.here hx rfl (hb hby at_260) rfl ?_
        refine XS.iload X267.here hx rfl (hb hby at_262) rfl ?_
        refine XS.icmpNo X267.here hx rfl (hb hby at_264) rfl (tlt ((by decide) : (2:Int32) < (3:Int32))).2.1 ?_
        refine XS.iload X267.here hx rfl (hb hby at_267) rfl ?_
        refine XS.ifNo X267.here hx rfl (hb hby at_269) rfl ((if0 _ _).trans (feq ((by decide) : ¬ ((1:Int32) = (0:Int32)))).1) ?_
        refine XS.aload X267.here hx rfl (hb hby at_272) rfl rfl ?_
        refine XS.iload X267.here hx rfl (hb hby at_274) rfl ?_
        show Steps p.tables e below (T267.setTop (mkF m 276 #[.val (.int p0), .val (.int p1), .val (.int p2), .val (.int p3), .val (.int p4), .val (.ref b1), .val (.ref b4), .val (.ref b8), .val (.ref b13), .val (.int (3:Int32)), .val (.int l0), .val (.int l1), .val (.int l2), .val (.int (2:Int32)), .val (.ref b24), .val (.ref b39), .val (.int (l0 + l1)), .val (.int l2), .val (.int (((0:Int32) + ((own_kl (l0 + (1:Int32))).toInt32)) + ((own_kl (l1 + (1:Int32))).toInt32))), .val (.int (1:Int32))] [(.int (2:Int32)), (.ref b39)])) _
        refine st270.trans ?_
        show Steps p.tables e below (T270.setTop (mkF m 279 #[.val (.int p0), .val (.int p1), .val (.int p2), .val (.int p3), .val (.int p4), .val (.ref b1), .val (.ref b4), .val (.ref b8), .val (.ref b13), .val (.int (3:Int32)), .val (.int l0), .val (.int l1), .val (.int l2), .val (.int (2:Int32)), .val (.ref b24), .val (.ref b39), .val (.int (l0 + l1)), .val (.int l2), .val (.int (((0:Int32) + ((own_kl (l0 + (1:Int32))).toInt32)) + ((own_kl (l1 + (1:Int32))).toInt32))), .val (.int (1:Int32))] [(.int ((((0:Int32) + ((own_kl (l0 + (1:Int32))).toInt32)) + ((own_kl (l1 + (1:Int32))).toInt32)) + ((own_kl (l2 + (1:Int32))).toInt32)))])) _
        refine XS.iload X270.here hx rfl (hb hby at_279) rfl ?_
        refine XS.isub X270.here hx rfl (hb hby at_281) rfl ?_
        refine XS.iload X270.here hx rfl (hb hby at_282) rfl ?_
        refine XS.icmpNo X270.here hx rfl (hb hby at_284) rfl (teq ((own_fin3 (fun l0 l1 l2 => (((((0:Int32) + ((own_kl (l0 + (1:Int32))).toInt32)) + ((own_kl (l1 + (1:Int32))).toInt32)) + ((own_kl (l2 + (1:Int32))).toInt32)) - (((0:Int32) + ((own_kl (l0 + (1:Int32))).toInt32)) + ((own_kl (l1 + (1:Int32))).toInt32))) = l2) (by decide) (own_l03 hl0) (own_l03 hl1) (own_l03 hl2)) : (((((0:Int32) + ((own_kl (l0 + (1:Int32))).toInt32)) + ((own_kl (l1 + (1:Int32))).toInt32)) + ((own_kl (l2 + (1:Int32))).toInt32)) - (((0:Int32) + ((own_kl (l0 + (1:Int32))).toInt32)) + ((own_kl (l1 + (1:Int32))).toInt32))) = l2)).2 ?_
        refine XS.iconst X270.here hx rfl (hb hby at_287) ?_
        refine XS.goto X270.here hx rfl (pc0 := 288) (pc' := 292) rfl (hb hby at_288) (by decide) (by decide) ?_
        refine XS.istore X270.here hx rfl (hb hby at_292) rfl (l' := #[.val (.int p0), .val (.int p1), .val (.int p2), .val (.int p3), .val (.int p4), .val (.ref b1), .val (.ref b4), .val (.ref b8), .val (.ref b13), .val (.int (3:Int32)), .val (.int l0), .val (.int l1), .val (.int l2), .val (.int (2:Int32)), .val (.ref b24), .val (.ref b39), .val (.int (l0 + l1)), .val (.int l2), .val (.int (((0:Int32) + ((own_kl (l0 + (1:Int32))).toInt32)) + ((own_kl (l1 + (1:Int32))).toInt32))), .val (.int (1:Int32))]) rfl ?_
        refine XS.iload X270.here hx rfl (hb hby at_294) rfl ?_
        show Steps p.tables e below (T270.setTop (mkF m 296 #[.val (.int p0), .val (.int p1), .val (.int p2), .val (.int p3), .val (.int p4), .val (.ref b1), .val (.ref b4), .val (.ref b8), .val (.ref b13), .val (.int (3:Int32)), .val (.int l0), .val (.int l1), .val (.int l2), .val (.int (2:Int32)), .val (.ref b24), .val (.ref b39), .val (.int (l0 + l1)), .val (.int l2), .val (.int (((0:Int32) + ((own_kl (l0 + (1:Int32))).toInt32)) + ((own_kl (l1 + (1:Int32))).toInt32))), .val (.int (1:Int32))] [(.int (1:Int32))])) _
        exact retN X270 hx (t := .boolean) Bd.returns (by simp) (hb hby at_296) hr
      · show rm0Q Z p0 p1 p2 p3 p4 h0 n0 _ T270.heap _
        rw [e270q]
        exact ⟨rfl, N270⟩
    · have Zz_272 : n0 ≤ T251.heap.size := (Nat.le_trans Zz_245 K251q.1)
      have Ee_273 : Exa Z T251.heap b39 "com/example/tavola/tavola/profile/RowBatch" := (Ee_252.keep K251q)
      obtain ⟨cq271, kq271, q271a, q271b, q271c⟩ := isOf hZ rfl (Ee_273)
      obtain ⟨_, _, ⟨T271, L271, k271, n271⟩, -, X271, ⟨Lc271, hQ271, l271, y271, z271⟩, st271⟩ := X251.virtualBack hx (y := (⟨"com/example/tavola/tavola/profile/RowBatch", "keyStart", "(I)I"⟩ : MethodName)) (z := (⟨"com/example/tavola/tavola/profile/RowBatch", "keyStart", "(I)I"⟩ : MethodName)) hown (mvT hZ (hw _ (oG (i := 51) rfl))) (mvT hZ (hw _ (oG (i := 52) rfl))) (notFace_of_selects (args := #[]) (mvT hZ (hw _ (oG (i := 54) rfl)))) (mvT hZ (hw _ (oG (i := 54) rfl))) (mvT hZ (hw _ (oG (i := 53) rfl))) (by decide) (backOf (W := 0) (rm4_3 l Z aw hw [] b39 be ke ((0:Int32) + ((own_kl (l0 + (1:Int32))).toInt32)) (((0:Int32) + ((own_kl (l0 + (1:Int32))).toInt32)) + ((own_kl (l1 + (1:Int32))).toInt32)) ((((0:Int32) + ((own_kl (l0 + (1:Int32))).toInt32)) + ((own_kl (l1 + (1:Int32))).toInt32)) + ((own_kl (l2 + (1:Int32))).toInt32)) T251.heap n0 Zz_272 Fa1_251 Va1_251) hZ (hw _ (oG (i := 55) rfl)) (hw _ (oG (i := 28) rfl)) (by decide) (by decide)) q271a q271c (g := (mkF m 241 #[.val (.int p0), .val (.int p1), .val (.int p2), .val (.int p3), .val (.int p4), .val (.ref b1), .val (.ref b4), .val (.ref b8), .val (.ref b13), .val (.int (3:Int32)), .val (.int l0), .val (.int l1), .val (.int l2), .val (.int (3:Int32)), .val (.ref b24), .val (.ref b39), .val (.int ((l0 + l1) + l2)), .val (.int l2), .unset, .unset] [(.int (3:Int32)), (.ref b39)])) rfl (by rw [hml]; rfl) (Steps.refl _) (argsL := [(.int (3:Int32))]) (rest := []) (lenOf pd_rm0_2 rfl) rfl (by show 2 * 0 + _ ≤ _; exact Nat.le_of_eq rfl) (hb hby at_241) (fun _ _ => ⟨rfl, rfl, (by decide : 17 + 0 ≤ _), (by decide : 139585 + 0 ≤ _)⟩)
      dsimp only [Pt.U, Pt.locs, Pt.cells, Pt.slots] at X271 l271 y271 z271 st271 hQ271
      subst l271 y271 z271
      obtain ⟨rfl, N271q, e271q⟩ := hQ271
      have N271 := Fr.app N251 N271q
      obtain ⟨fs, hr, hrun, hended, hW, hsame⟩ := X271.leave (v := some (.int (1:Int32))) (fun h => by rw [Bd.returns] at h; cases h)
      refine ⟨_, _, pre258 _ ?_, hrun, hended, _, _, rfl, ?_, ⟨_, rfl⟩, hW, hsame.mono (by decide) (by decide)⟩
      · show Steps p.tables e below (T251.setTop (mkF m 168 #[.val (.int p0), .val (.int p1), .val (.int p2), .val (.int p3), .val (.int p4), .val (.ref b1), .val (.ref b4), .val (.ref b8), .val (.ref b13), .val (.int (3:Int32)), .val (.int l0), .val (.int l1), .val (.int l2), .val (.int (3:Int32)), .val (.ref b24), .val (.ref b39), .unset, .unset, .unset, .unset] [])) _
        refine XS.iload X251.here hx rfl (hb hby at_168) rfl ?_
        refine XS.ifYes X251.here hx rfl (pc0 := 170) (pc' := 177) rfl (hb hby at_170) rfl ((if0 _ _).trans (feq ((by decide) : ¬ ((3:Int32) = (0:Int32)))).2) (by decide) (by decide) ?_
        refine XS.iload X251.here hx rfl (hb hby at_177) rfl ?_
        refine XS.iconst X251.here hx rfl (hb hby at_179) ?_
        refine XS.icmpYes X251.here hx rfl (pc0 := 180) (pc' := 188) rfl (hb hby at_180) rfl (feq ((by decide) : ¬ ((3:Int32) = (1:Int32)))).2 (by decide) (by decide) ?_
        refine XS.iload X251.here hx rfl (hb hby at_188) rfl ?_
        refine XS.iconst X251.here hx rfl (hb hby at_190) ?_
        refine XS.icmpYes X251.here hx rfl (pc0 := 191) (pc' := 202) rfl (hb hby at_191) rfl (feq ((by decide) : ¬ ((3:Int32) = (2:Int32)))).2 (by decide) (by decide) ?_
        refine XS.iload X251.here hx rfl (hb hby at_202) rfl ?_
        refine XS.iload X251.here hx rfl (hb hby at_204) rfl ?_
        refine XS.iadd X251.here hx rfl (hb hby at_206) rfl ?_
        refine XS.iload X251.here hx rfl (hb hby at_207) rfl ?_
        refine XS.iadd X251.here hx rfl (hb hby at_209) rfl ?_
        refine XS.istore X251.here hx rfl (hb hby at_210) rfl (l' := #[.val (.int p0), .val (.int p1), .val (.int p2), .val (.int p3), .val (.int p4), .val (.ref b1), .val (.ref b4), .val (.ref b8), .val (.ref b13), .val (.int (3:Int32)), .val (.int l0), .val (.int l1), .val (.int l2), .val (.int (3:Int32)), .val (.ref b24), .val (.ref b39), .val (.int ((l0 + l1) + l2)), .unset, .unset, .unset]) rfl ?_
        refine XS.iload X251.here hx rfl (hb hby at_212) rfl ?_
        refine XS.ifYes X251.here hx rfl (pc0 := 214) (pc' := 222) rfl (hb hby at_214) rfl ((if0 _ _).trans (feq ((by decide) : ¬ ((3:Int32) = (0:Int32)))).2) (by decide) (by decide) ?_
        refine XS.iload X251.here hx rfl (hb hby at_222) rfl ?_
        refine XS.iconst X251.here hx rfl (hb hby at_224) ?_
        refine XS.icmpYes X251.here hx rfl (pc0 := 225) (pc' := 233) rfl (hb hby at_225) rfl (feq ((by decide) : ¬ ((3:Int32) = (1:Int32)))).2 (by decide) (by decide) ?_
        refine XS.iload X251.here hx rfl (hb hby at_233) rfl ?_
        refine XS.istore X251.here hx rfl (hb hby at_235) rfl (l' := #[.val (.int p0), .val (.int p1), .val (.int p2), .val (.int p3), .val (.int p4), .val (.ref b1), .val (.ref b4), .val (.ref b8), .val (.ref b13), .val (.int (3:Int32)), .val (.int l0), .val (.int l1), .val (.int l2), .val (.int (3:Int32)), .val (.ref b24), .val (.ref b39), .val (.int ((l0 + l1) + l2)), .val (.int l2), .unset, .unset]) rfl ?_
        refine XS.aload X251.here hx rfl (hb hby at_237) rfl rfl ?_
        refine XS.iload X251.here hx rfl (hb hby at_239) rfl ?_
        show Steps p.tables e below (T251.setTop (mkF m 241 #[.val (.int p0), .val (.int p1), .val (.int p2), .val (.int p3), .val (.int p4), .val (.ref b1), .val (.ref b4), .val (.ref b8), .val (.ref b13), .val (.int (3:Int32)), .val (.int l0), .val (.int l1), .val (.int l2), .val (.int (3:Int32)), .val (.ref b24), .val (.ref b39), .val (.int ((l0 + l1) + l2)), .val (.int l2), .unset, .unset] [(.int (3:Int32)), (.ref b39)])) _
        refine st271.trans ?_
        show Steps p.tables e below (T271.setTop (mkF m 244 #[.val (.int p0), .val (.int p1), .val (.int p2), .val (.int p3), .val (.int p4), .val (.ref b1), .val (.ref b4), .val (.ref b8), .val (.ref b13), .val (.int (3:Int32)), .val (.int l0), .val (.int l1), .val (.int l2), .val (.int (3:Int32)), .val (.ref b24), .val (.ref b39), .val (.int ((l0 + l1) + l2)), .val (.int l2), .unset, .unset] [(.int ((((0:Int32) + ((own_kl (l0 + (1:Int32))).toInt32)) + ((own_kl (l1 + (1:Int32))).toInt32)) + ((own_kl (l2 + (1:Int32))).toInt32)))])) _
        refine XS.istore X271.here hx rfl (hb hby at_244) rfl (l' := #[.val (.int p0), .val (.int p1), .val (.int p2), .val (.int p3), .val (.int p4), .val (.ref b1), .val (.ref b4), .val (.ref b8), .val (.ref b13), .val (.int (3:Int32)), .val (.int l0), .val (.int l1), .val (.int l2), .val (.int (3:Int32)), .val (.ref b24), .val (.ref b39), .val (.int ((l0 + l1) + l2)), .val (.int l2), .val (.int ((((0:Int32) + ((own_kl (l0 + (1:Int32))).toInt32)) + ((own_kl (l1 + (1:Int32))).toInt32)) + ((own_kl (l2 + (1:Int32))).toInt32))), .unset]) rfl ?_
        refine XS.iload X271.here hx rfl (hb hby at_246) rfl ?_
        refine XS.iload X271.here hx rfl (hb hby at_248) rfl ?_
        refine XS.icmpNo X271.here hx rfl (hb hby at_250) rfl (teq ((own_fin3 (fun l0 l1 l2 => ((((0:Int32) + ((own_kl (l0 + (1:Int32))).toInt32)) + ((own_kl (l1 + (1:Int32))).toInt32)) + ((own_kl (l2 + (1:Int32))).toInt32)) = ((l0 + l1) + l2)) (by decide) (own_l03 hl0) (own_l03 hl1) (own_l03 hl2)) : ((((0:Int32) + ((own_kl (l0 + (1:Int32))).toInt32)) + ((own_kl (l1 + (1:Int32))).toInt32)) + ((own_kl (l2 + (1:Int32))).toInt32)) = ((l0 + l1) + l2))).2 ?_
        refine XS.iconst X271.here hx rfl (hb hby at_253) ?_
        refine XS.goto X271.here hx rfl (pc0 := 254) (pc' := 258) rfl (hb hby at_254) (by decide) (by decide) ?_
        refine XS.istore X271.here hx rfl (hb hby at_258) rfl (l' := #[.val (.int p0), .val (.int p1), .val (.int p2), .val (.int p3), .val (.int p4), .val (.ref b1), .val (.ref b4), .val (.ref b8), .val (.ref b13), .val (.int (3:Int32)), .val (.int l0), .val (.int l1), .val (.int l2), .val (.int (3:Int32)), .val (.ref b24), .val (.ref b39), .val (.int ((l0 + l1) + l2)), .val (.int l2), .val (.int ((((0:Int32) + ((own_kl (l0 + (1:Int32))).toInt32)) + ((own_kl (l1 + (1:Int32))).toInt32)) + ((own_kl (l2 + (1:Int32))).toInt32))), .val (.int (1:Int32))]) rfl ?_
        refine XS.iload X271.here hx rfl (hb hby at_260) rfl ?_
        refine XS.iload X271.here hx rfl (hb hby at_262) rfl ?_
        refine XS.icmpYes X271.here hx rfl (pc0 := 264) (pc' := 294) rfl (hb hby at_264) rfl (flt ((by decide) : ¬ ((3:Int32) < (3:Int32)))).2.1 (by decide) (by decide) ?_
        refine XS.iload X271.here hx rfl (hb hby at_294) rfl ?_
        show Steps p.tables e below (T271.setTop (mkF m 296 #[.val (.int p0), .val (.int p1), .val (.int p2), .val (.int p3), .val (.int p4), .val (.ref b1), .val (.ref b4), .val (.ref b8), .val (.ref b13), .val (.int (3:Int32)), .val (.int l0), .val (.int l1), .val (.int l2), .val (.int (3:Int32)), .val (.ref b24), .val (.ref b39), .val (.int ((l0 + l1) + l2)), .val (.int l2), .val (.int ((((0:Int32) + ((own_kl (l0 + (1:Int32))).toInt32)) + ((own_kl (l1 + (1:Int32))).toInt32)) + ((own_kl (l2 + (1:Int32))).toInt32))), .val (.int (1:Int32))] [(.int (1:Int32))])) _
        exact retN X271 hx (t := .boolean) Bd.returns (by simp) (hb hby at_296) hr
      · show rm0Q Z p0 p1 p2 p3 p4 h0 n0 _ T271.heap _
        rw [e271q]
        exact ⟨rfl, N271⟩
set_option maxRecDepth 65536 in
set_option maxHeartbeats 40000000 in
theorem comes_1 {Post : Tables → Env → Array Value → State → Outcome → State → Prop} (hpost : ∀ tb e args s v u, (limb_1_1.after args s (.returned v) u = true ∧ limb_1_2.after args s (.returned v) u = true ∧ True) → FrameEnd s (.returned v) u (Jvm.fieldLocs frame_1_writes args s ++ Jvm.arrayLocs frame_1_arrays args s ++ Jvm.staticLocs frame_1_statics s) 48 167552 → Post tb e args s (.returned v) u) :
    ArmFor flags0 classFile x code maxLocals ret World_1 tables_1 room_1 Calls_1 rest_1 Pre_1 Post := by
  intro l hfl _ _ p e ha hc hk s m args below hf hA hF happ hP
  obtain ⟨hcalls, hrest, hpre⟩ := hP
  obtain ⟨-, -, -, hnamed, -, -, -, hat⟩ := (Spec.applies_iff hf).mp happ
  obtain ⟨hg, hn⟩ := and_e (Cond.before_iff.mp (show (Jvm.Cond.and given_1 narrow_1).before args s = true from hpre))
  obtain ⟨g1, g2⟩ := and_e hg
  obtain ⟨g3, g4⟩ := and_e g2
  obtain ⟨g5, g6⟩ := and_e g4
  obtain ⟨g7, g8⟩ := and_e g6
  obtain ⟨g9, g10⟩ := and_e g8
  obtain ⟨w0, w1, w2, w3, w4, rfl⟩ : ∃ w0 w1 w2 w3 w4 : Value, args = #[w0, w1, w2, w3, w4] := by
    have hs : args.size = 5 := by simpa [Cond.value, given_1] using g1
    obtain ⟨L⟩ := args
    match L, hs with
    | [w0, w1, w2, w3, w4], _ => exact ⟨w0, w1, w2, w3, w4, rfl⟩
  have hw := fun d (hd : d ∈ tables_1) => atoms_spec (ws := Jvm.Cond.code x code maxLocals ret :: tables_1) hat d (List.mem_cons_of_mem _ hd)
  have hfit : Fit s := fun {y c} hc i hi => by
    obtain ⟨ha, rfl⟩ := Array.getElem?_eq_some_iff.mp hc
    have q := List.all_eq_true.mp ((Array.all_eq_true_iff_forall_mem.mp hF) _ (Array.getElem_mem ha)) i (List.mem_range.mpr hi)
    simpa [Array.getElem?_eq_getElem hi] using q
  obtain ⟨i0, ei0⟩ := is_v g3
  obtain rfl : w0 = (.int i0) := Option.some.inj ei0
  obtain ⟨i1, ei1⟩ := is_v g5
  obtain rfl : w1 = (.int i1) := Option.some.inj ei1
  obtain ⟨i2, ei2⟩ := is_v g7
  obtain rfl : w2 = (.int i2) := Option.some.inj ei2
  obtain ⟨i3, ei3⟩ := is_v g9
  obtain rfl : w3 = (.int i3) := Option.some.inj ei3
  obtain ⟨i4, ei4⟩ := is_v g10
  obtain rfl : w4 = (.int i4) := Option.some.inj ei4
  obtain ⟨n, o, h1, h2, h3, _, L, rfl, ⟨rfl, N⟩, hq⟩ := rm0 l s _ hw tables_1 i0 i1 i2 i3 i4 s.heap s.heap.size (Nat.le_refl _) p e ha hc hk s m _ below hf ((Spec.applies_iff_loose hf).mp happ).1 ⟨rfl, State.Warmed39.refl s, rfl⟩ trivial
  refine ⟨n, _, h1, h2, h3, hpost _ _ _ _ _ _ ⟨Cond.after_iff.mpr rfl, Cond.after_iff.mpr (eq_i res_at (Term.int_eval (1)) rfl), trivial⟩ ⟨hq.1, hq.2.1, (hq.2.2.sift fun y hy => Or.inr (N y hy)).mono (by decide) (by decide)⟩⟩
theorem main_1_1 : Claimed_1_1 := comes_1 fun _ _ _ _ _ _ h hF => ⟨h.1, hF⟩
theorem main_1_2 : Claimed_1_2 := comes_1 fun _ _ _ _ _ _ h hF => ⟨h.2.1, hF⟩
end Jvm.Pilot.@@N@@
namespace Jvm.Pilot.@@N@@
open Jvm Jvm.ClassFile Sem Op Lib Jvm.Free Jvm.Stand Jvm.Pilot.@@N@@.Jvm.D
/-! MADE BY PROGRAM (witnessworld.py) out of the Statement's table words and the real class files: 16 classes; the members and pool entries that the words name. The judged class is class 1, her method 2. -/
namespace start1
open Jvm.ClassFile
def u (s : String) : CpInfo := .utf8 (stringToUtf16 s)
/-- a pool by its gaps: so many unusable entries, then the entry; so many at the end -/
def gap : Nat → List CpInfo → List CpInfo
  | 0, r => r
  | n + 1, r => .unusable :: gap n r
def poolList (es : List (Nat × CpInfo)) (last : Nat) : List CpInfo := es.foldr (fun e r => gap e.1 (e.2 :: r)) (gap last [])
def pool (es : List (Nat × CpInfo)) (last : Nat) : Array CpInfo := ⟨poolList es last⟩
def fileOf (pool : Array CpInfo) (this : Nat) (attrs : Array Attribute := #[]) (ms : Array MethodInfo := #[]) (fl : Nat := 33) (sup : Nat := 0) (ifs : Array Nat := #[]) (fds : Array FieldInfo := #[]) : ClassFile where
  minorVersion := 0
  majorVersion := 65
  constantPool := pool
  accessFlags := fl
  thisClass := this
  superClass := sup
  interfaces := ifs
  fields := fds
  methods := ms
  attributes := attrs
def plain (name : String) (sup : Option ClassId) : Class where
  name := name
  kind := .ordinary
  loader := none
  accessFlags := 33
  super := sup
  interfaces := #[]
  cf := none
  fields := #[]
  methods := #[]
  instanceTypes := #[]
  staticTypes := #[]
  resolved := #[]
  callSites := []
  init := .initialized
  statics := none
  mirror := none

def pool0 : Array CpInfo := pool [(5, u "<init>"), (0, u "()V"), (1, .class_ 10), (1, u "java/lang/Object")] 113

def k0c0 : Code := { maxStack := 0, maxLocals := 1, code := object_method_1_code, exceptionTable := #[], attributes := #[] }
def k0m0 : Method := { name := "<init>", desc := "()V", sig := { parameters := [], returnType := none }, accessFlags := 1, code := some k0c0 }
/-- java/lang/Object -/
def k0 : Class := { plain "java/lang/Object" none with
  accessFlags := 33
  interfaces := #[]
  cf := some (fileOf pool0 8 #[] #[{ accessFlags := 1, nameIndex := 5, descriptorIndex := 6, attributes := #[] }] 33 0 #[] #[])
  fields := #[]
  methods := #[k0m0]
  instanceTypes := #[]
  staticTypes := #[]
  resolved := Array.replicate 124 none
  statics := none }

def pool1 : Array CpInfo := pool [(2, .class_ 4), (1, u "java/lang/Object"), (0, u "<init>"), (0, u "()V"), (0, .integer 2147483647), (0, .class_ 9), (0, u "com/example/tavola/tavola/profile/CsvReader"), (0, .methodref 8 11), (0, .nameAndType 5 12), (0, u "(Ljava/io/InputStream;)V"), (0, .class_ 14), (0, u "com/example/tavola/tavola/profile/RowBatch"), (0, .methodref 13 16), (0, .nameAndType 5 17), (0, u "(I)V"), (0, .methodref 19 20), (0, .class_ 21), (0, .nameAndType 22 23), (0, u "com/example/tavola/tavola/profile/RowBatchKeyStartPinLaw"), (0, u "pick"), (0, u "(I[I[I[I[I)[I"), (0, .methodref 13 25), (0, .nameAndType 26 27), (0, u "add"), (0, u "(Lcom/example/tavola/tavola/profile/CsvReader;[IJJJ)I"), (0, .methodref 13 29), (0, .nameAndType 30 31), (0, u "keyStart"), (0, u "(I)I"), (0, .methodref 13 33), (0, .nameAndType 34 31), (0, u "keyEnd"), (5, u "law"), (0, u "(IIIII)Z")] 2

def k1m0 : Method := { name := "<init>", desc := "()V", sig := { parameters := [], returnType := none }, accessFlags := 1, code := none }
def k1c1 : Code := { maxStack := 2, maxLocals := 5, code := method_2_code, exceptionTable := #[], attributes := #[] }
def k1m1 : Method := { name := "pick", desc := "(I[I[I[I[I)[I", sig := { parameters := [.int, (.array .int), (.array .int), (.array .int), (.array .int)], returnType := some (.array .int) }, accessFlags := 10, code := some k1c1 }
def k1c2 : Code := { maxStack := 9, maxLocals := 20, code := code, exceptionTable := #[], attributes := #[] }
def k1m2 : Method := { name := "law", desc := "(IIIII)Z", sig := { parameters := [.int, .int, .int, .int, .int], returnType := some .boolean }, accessFlags := 9, code := some k1c2 }
/-- com/example/tavola/tavola/profile/RowBatchKeyStartPinLaw -/
def k1 : Class := { plain "com/example/tavola/tavola/profile/RowBatchKeyStartPinLaw" (some 0) with
  accessFlags := 49
  interfaces := #[]
  cf := some (fileOf pool1 19 #[] #[{ accessFlags := 1, nameIndex := 5, descriptorIndex := 6, attributes := #[] }, { accessFlags := 10, nameIndex := 22, descriptorIndex := 23, attributes := #[] }, { accessFlags := 9, nameIndex := 40, descriptorIndex := 41, attributes := #[] }] 49 2 #[] #[])
  fields := #[]
  methods := #[k1m0, k1m1, k1m2]
  instanceTypes := #[]
  staticTypes := #[]
  resolved := Array.replicate 44 none
  statics := none }

def pool2 : Array CpInfo := pool [(1, .class_ 2), (0, u "com/example/tavola/tavola/profile/CsvReader"), (0, .methodref 4 5), (0, .class_ 6), (0, .nameAndType 7 8), (0, u "java/lang/Object"), (0, u "<init>"), (0, u "()V"), (0, .integer 65536), (0, .fieldref 1 11), (0, .nameAndType 12 13), (0, u "buffer"), (0, u "[B"), (0, .fieldref 1 15), (0, .nameAndType 16 17), (0, u "currentLine"), (0, u "J"), (0, .fieldref 1 19), (0, .nameAndType 20 13), (0, u "record"), (0, .fieldref 1 22), (0, .nameAndType 23 24), (0, u "ends"), (0, u "[I"), (0, .fieldref 1 26), (0, .nameAndType 27 28), (0, u "quoted"), (0, u "[Z"), (0, .fieldref 1 30), (0, .nameAndType 31 32), (0, u "in"), (0, u "Ljava/io/InputStream;"), (6, u "position"), (0, u "I"), (9, u "line"), (2, u "length"), (2, u "fields"), (2, u "problem"), (0, u "Ljava/lang/String;"), (3, .methodref 1 65), (0, .nameAndType 66 67), (0, u "start"), (0, u "(I)I"), (13, u "keyLength"), (0, u "([I)J"), (6, .methodref 90 91), (0, .class_ 92), (0, .nameAndType 93 94), (0, u "java/lang/System"), (0, u "arraycopy"), (0, u "(Ljava/lang/Object;ILjava/lang/Object;II)V"), (41, u "limit"), (6, u "ended"), (0, u "Z"), (14, u "WORDS"), (0, u "Ljava/lang/invoke/VarHandle;"), (63, u "MAX_RECORD"), (1, u "CHUNK"), (0, u "ONES"), (0, u "HIGH_BITS"), (0, u "COMMAS"), (0, u "QUOTES"), (0, u "LINE_FEEDS"), (0, u "RETURNS"), (0, u "(Ljava/io/InputStream;)V"), (16, u "keyHash"), (0, u "([I)I"), (3, u "copyKey"), (0, u "([I[BI)V")] 3

def k2c0 : Code := { maxStack := 3, maxLocals := 2, code := prog_81_method_1_code, exceptionTable := #[], attributes := #[] }
def k2m0 : Method := { name := "<init>", desc := "(Ljava/io/InputStream;)V", sig := { parameters := [(.object "java/io/InputStream")], returnType := none }, accessFlags := 0, code := some k2c0 }
def k2c1 : Code := { maxStack := 3, maxLocals := 6, code := prog_81_method_11_code, exceptionTable := #[], attributes := #[] }
def k2m1 : Method := { name := "keyHash", desc := "([I)I", sig := { parameters := [(.array .int)], returnType := some .int }, accessFlags := 0, code := some k2c1 }
def k2c2 : Code := { maxStack := 5, maxLocals := 8, code := prog_81_method_12_code, exceptionTable := #[], attributes := #[] }
def k2m2 : Method := { name := "keyLength", desc := "([I)J", sig := { parameters := [(.array .int)], returnType := some .long }, accessFlags := 0, code := some k2c2 }
def k2c3 : Code := { maxStack := 5, maxLocals := 7, code := prog_81_method_14_code, exceptionTable := #[], attributes := #[] }
def k2m3 : Method := { name := "copyKey", desc := "([I[BI)V", sig := { parameters := [(.array .int), (.array .byte), .int], returnType := none }, accessFlags := 0, code := some k2c3 }
def k2c4 : Code := { maxStack := 3, maxLocals := 2, code := prog_81_method_15_code, exceptionTable := #[], attributes := #[] }
def k2m4 : Method := { name := "start", desc := "(I)I", sig := { parameters := [.int], returnType := some .int }, accessFlags := 2, code := some k2c4 }
/-- com/example/tavola/tavola/profile/CsvReader -/
def k2 : Class := { plain "com/example/tavola/tavola/profile/CsvReader" (some 0) with
  accessFlags := 48
  interfaces := #[]
  cf := some (fileOf pool2 1 #[] #[{ accessFlags := 0, nameIndex := 7, descriptorIndex := 233, attributes := #[] }, { accessFlags := 0, nameIndex := 250, descriptorIndex := 251, attributes := #[] }, { accessFlags := 0, nameIndex := 81, descriptorIndex := 82, attributes := #[] }, { accessFlags := 0, nameIndex := 255, descriptorIndex := 256, attributes := #[] }, { accessFlags := 2, nameIndex := 66, descriptorIndex := 67, attributes := #[] }] 48 4 #[] #[{ accessFlags := 24, nameIndex := 224, descriptorIndex := 40, attributes := #[] }, { accessFlags := 26, nameIndex := 226, descriptorIndex := 40, attributes := #[] }, { accessFlags := 26, nameIndex := 159, descriptorIndex := 160, attributes := #[] }, { accessFlags := 26, nameIndex := 227, descriptorIndex := 17, attributes := #[] }, { accessFlags := 26, nameIndex := 228, descriptorIndex := 17, attributes := #[] }, { accessFlags := 26, nameIndex := 229, descriptorIndex := 17, attributes := #[] }, { accessFlags := 26, nameIndex := 230, descriptorIndex := 17, attributes := #[] }, { accessFlags := 26, nameIndex := 231, descriptorIndex := 17, attributes := #[] }, { accessFlags := 26, nameIndex := 232, descriptorIndex := 17, attributes := #[] }, { accessFlags := 18, nameIndex := 31, descriptorIndex := 32, attributes := #[] }, { accessFlags := 18, nameIndex := 12, descriptorIndex := 13, attributes := #[] }, { accessFlags := 2, nameIndex := 39, descriptorIndex := 40, attributes := #[] }, { accessFlags := 2, nameIndex := 136, descriptorIndex := 40, attributes := #[] }, { accessFlags := 2, nameIndex := 143, descriptorIndex := 144, attributes := #[] }, { accessFlags := 2, nameIndex := 16, descriptorIndex := 17, attributes := #[] }, { accessFlags := 2, nameIndex := 20, descriptorIndex := 13, attributes := #[] }, { accessFlags := 2, nameIndex := 53, descriptorIndex := 40, attributes := #[] }, { accessFlags := 2, nameIndex := 23, descriptorIndex := 24, attributes := #[] }, { accessFlags := 2, nameIndex := 27, descriptorIndex := 28, attributes := #[] }, { accessFlags := 2, nameIndex := 56, descriptorIndex := 40, attributes := #[] }, { accessFlags := 2, nameIndex := 50, descriptorIndex := 17, attributes := #[] }, { accessFlags := 2, nameIndex := 59, descriptorIndex := 60, attributes := #[] }])
  fields := #[{ name := "MAX_RECORD", type := .int, accessFlags := 24, slot := 0, constantValue := 0 }, { name := "CHUNK", type := .int, accessFlags := 26, slot := 1, constantValue := 0 }, { name := "WORDS", type := (.object "java/lang/invoke/VarHandle"), accessFlags := 26, slot := 2, constantValue := 0 }, { name := "ONES", type := .long, accessFlags := 26, slot := 3, constantValue := 0 }, { name := "HIGH_BITS", type := .long, accessFlags := 26, slot := 4, constantValue := 0 }, { name := "COMMAS", type := .long, accessFlags := 26, slot := 5, constantValue := 0 }, { name := "QUOTES", type := .long, accessFlags := 26, slot := 6, constantValue := 0 }, { name := "LINE_FEEDS", type := .long, accessFlags := 26, slot := 7, constantValue := 0 }, { name := "RETURNS", type := .long, accessFlags := 26, slot := 8, constantValue := 0 }, { name := "in", type := (.object "java/io/InputStream"), accessFlags := 18, slot := 0, constantValue := 0 }, { name := "buffer", type := (.array .byte), accessFlags := 18, slot := 1, constantValue := 0 }, { name := "position", type := .int, accessFlags := 2, slot := 2, constantValue := 0 }, { name := "limit", type := .int, accessFlags := 2, slot := 3, constantValue := 0 }, { name := "ended", type := .boolean, accessFlags := 2, slot := 4, constantValue := 0 }, { name := "currentLine", type := .long, accessFlags := 2, slot := 5, constantValue := 0 }, { name := "record", type := (.array .byte), accessFlags := 2, slot := 6, constantValue := 0 }, { name := "length", type := .int, accessFlags := 2, slot := 7, constantValue := 0 }, { name := "ends", type := (.array .int), accessFlags := 2, slot := 8, constantValue := 0 }, { name := "quoted", type := (.array .boolean), accessFlags := 2, slot := 9, constantValue := 0 }, { name := "fields", type := .int, accessFlags := 2, slot := 10, constantValue := 0 }, { name := "line", type := .long, accessFlags := 2, slot := 11, constantValue := 0 }, { name := "problem", type := (.object "java/lang/String"), accessFlags := 2, slot := 12, constantValue := 0 }]
  methods := #[k2m0, k2m1, k2m2, k2m3, k2m4]
  instanceTypes := #[(.object "java/io/InputStream"), (.array .byte), .int, .int, .boolean, .long, (.array .byte), .int, (.array .int), (.array .boolean), .int, .long, (.object "java/lang/String")]
  staticTypes := #[.int, .int, (.object "java/lang/invoke/VarHandle"), .long, .long, .long, .long, .long, .long]
  resolved := Array.replicate 260 none
  statics := none }

def pool3 : Array CpInfo := pool [(1, .methodref 2 3), (0, .class_ 4), (0, .nameAndType 5 6), (0, u "java/lang/Object"), (0, u "<init>"), (0, u "()V"), (0, .class_ 8), (0, u "com/example/tavola/tavola/profile/RowBatch"), (0, .integer 65536), (0, .fieldref 7 11), (0, .nameAndType 12 13), (0, u "keys"), (0, u "[B"), (0, .fieldref 7 15), (0, .nameAndType 16 17), (0, u "keyEnds"), (0, u "[I"), (0, .fieldref 7 19), (0, .nameAndType 20 17), (0, u "hashes"), (0, .fieldref 7 22), (0, .nameAndType 23 24), (0, u "keyBytes"), (0, u "[J"), (0, .fieldref 7 26), (0, .nameAndType 27 24), (0, u "rowBytes"), (0, .fieldref 7 29), (0, .nameAndType 30 24), (0, u "regularValues"), (0, .fieldref 7 32), (0, .nameAndType 33 34), (0, u "staticColumns"), (0, u "I"), (0, .fieldref 7 36), (0, .nameAndType 37 17), (0, u "statics"), (0, .methodref 39 40), (0, .class_ 41), (0, .nameAndType 42 43), (0, u "com/example/tavola/tavola/profile/CsvReader"), (0, u "keyLength"), (0, u "([I)J"), (0, .fieldref 7 45), (0, .nameAndType 46 34), (0, u "keysLength"), (0, .long 2), (8, .class_ 58), (1, u "java/util/Arrays"), (2, .methodref 39 62), (0, .nameAndType 63 64), (0, u "copyKey"), (0, u "([I[BI)V"), (0, .fieldref 7 66), (0, .nameAndType 67 34), (0, u "count"), (0, .methodref 39 69), (0, .nameAndType 70 71), (0, u "keyHash"), (0, u "([I)I"), (0, .methodref 56 73), (0, .nameAndType 74 75), (0, u "fill"), (0, u "([IIII)V"), (0, u "CAPACITY"), (2, u "(I)V"), (2, u "add"), (0, u "(Lcom/example/tavola/tavola/profile/CsvReader;[IJJJ)I"), (8, u "keyStart"), (0, u "(I)I"), (0, u "keyEnd")] 6

def k3c0 : Code := { maxStack := 3, maxLocals := 2, code := prog_92_method_1_code, exceptionTable := #[], attributes := #[] }
def k3m0 : Method := { name := "<init>", desc := "(I)V", sig := { parameters := [.int], returnType := none }, accessFlags := 0, code := some k3c0 }
def k3c1 : Code := { maxStack := 8, maxLocals := 12, code := prog_92_method_2_code, exceptionTable := #[], attributes := #[] }
def k3m1 : Method := { name := "add", desc := "(Lcom/example/tavola/tavola/profile/CsvReader;[IJJJ)I", sig := { parameters := [(.object "com/example/tavola/tavola/profile/CsvReader"), (.array .int), .long, .long, .long], returnType := some .int }, accessFlags := 0, code := some k3c1 }
def k3c2 : Code := { maxStack := 3, maxLocals := 2, code := prog_92_method_8_code, exceptionTable := #[], attributes := #[] }
def k3m2 : Method := { name := "keyStart", desc := "(I)I", sig := { parameters := [.int], returnType := some .int }, accessFlags := 0, code := some k3c2 }
def k3c3 : Code := { maxStack := 2, maxLocals := 2, code := prog_92_method_9_code, exceptionTable := #[], attributes := #[] }
def k3m3 : Method := { name := "keyEnd", desc := "(I)I", sig := { parameters := [.int], returnType := some .int }, accessFlags := 0, code := some k3c3 }
/-- com/example/tavola/tavola/profile/RowBatch -/
def k3 : Class := { plain "com/example/tavola/tavola/profile/RowBatch" (some 0) with
  accessFlags := 48
  interfaces := #[]
  cf := some (fileOf pool3 7 #[] #[{ accessFlags := 0, nameIndex := 5, descriptorIndex := 79, attributes := #[] }, { accessFlags := 0, nameIndex := 82, descriptorIndex := 83, attributes := #[] }, { accessFlags := 0, nameIndex := 92, descriptorIndex := 93, attributes := #[] }, { accessFlags := 0, nameIndex := 94, descriptorIndex := 93, attributes := #[] }] 48 2 #[] #[{ accessFlags := 24, nameIndex := 76, descriptorIndex := 34, attributes := #[] }, { accessFlags := 18, nameIndex := 33, descriptorIndex := 34, attributes := #[] }, { accessFlags := 2, nameIndex := 67, descriptorIndex := 34, attributes := #[] }, { accessFlags := 2, nameIndex := 12, descriptorIndex := 13, attributes := #[] }, { accessFlags := 2, nameIndex := 46, descriptorIndex := 34, attributes := #[] }, { accessFlags := 18, nameIndex := 16, descriptorIndex := 17, attributes := #[] }, { accessFlags := 18, nameIndex := 20, descriptorIndex := 17, attributes := #[] }, { accessFlags := 18, nameIndex := 23, descriptorIndex := 24, attributes := #[] }, { accessFlags := 18, nameIndex := 27, descriptorIndex := 24, attributes := #[] }, { accessFlags := 18, nameIndex := 30, descriptorIndex := 24, attributes := #[] }, { accessFlags := 18, nameIndex := 37, descriptorIndex := 17, attributes := #[] }])
  fields := #[{ name := "CAPACITY", type := .int, accessFlags := 24, slot := 0, constantValue := 0 }, { name := "staticColumns", type := .int, accessFlags := 18, slot := 0, constantValue := 0 }, { name := "count", type := .int, accessFlags := 2, slot := 1, constantValue := 0 }, { name := "keys", type := (.array .byte), accessFlags := 2, slot := 2, constantValue := 0 }, { name := "keysLength", type := .int, accessFlags := 2, slot := 3, constantValue := 0 }, { name := "keyEnds", type := (.array .int), accessFlags := 18, slot := 4, constantValue := 0 }, { name := "hashes", type := (.array .int), accessFlags := 18, slot := 5, constantValue := 0 }, { name := "keyBytes", type := (.array .long), accessFlags := 18, slot := 6, constantValue := 0 }, { name := "rowBytes", type := (.array .long), accessFlags := 18, slot := 7, constantValue := 0 }, { name := "regularValues", type := (.array .long), accessFlags := 18, slot := 8, constantValue := 0 }, { name := "statics", type := (.array .int), accessFlags := 18, slot := 9, constantValue := 0 }]
  methods := #[k3m0, k3m1, k3m2, k3m3]
  instanceTypes := #[.int, .int, (.array .byte), .int, (.array .int), (.array .int), (.array .long), (.array .long), (.array .long), (.array .int)]
  staticTypes := #[.int]
  resolved := Array.replicate 101 none
  statics := none }

def pool4 : Array CpInfo := pool [(2, .class_ 4), (1, u "java/lang/Object"), (0, u "<init>"), (0, u "()V"), (1, .class_ 10), (1, u "java/lang/System"), (0, u "allowSecurityManager"), (0, u "I"), (16, u "cons"), (0, u "Ljava/io/Console;"), (77, .class_ 110), (1, u "java/lang/System$CallersHolder"), (43, u "initialErrStream"), (0, u "Ljava/io/PrintStream;"), (19, u "security"), (0, u "Ljava/lang/SecurityManager;"), (31, .class_ 209), (0, u "java/lang/System$1"), (7, u "props"), (0, u "Ljava/util/Properties;"), (2, u "lineSeparator"), (0, u "Ljava/lang/String;"), (96, .class_ 321), (1, u "java/lang/System$LoggerFinder"), (5, .class_ 328), (0, u "java/lang/System$Logger"), (67, u "err"), (2, u "out"), (91, u "notSupportedJnuEncoding"), (15, u "in"), (17, u "initialIn"), (0, u "Ljava/io/InputStream;"), (35, u "bootLayer"), (0, u "Ljava/lang/ModuleLayer;"), (99, .class_ 664), (0, u "java/lang/System$2"), (9, u "NEVER"), (2, u "MAYBE"), (49, u "arraycopy"), (0, u "(Ljava/lang/Object;ILjava/lang/Object;II)V"), (72, .class_ 802), (0, u "java/lang/System$Logger$Level")] 31

def k4m0 : Method := { name := "<init>", desc := "()V", sig := { parameters := [], returnType := none }, accessFlags := 2, code := none }
def k4m1 : Method := { name := "arraycopy", desc := "(Ljava/lang/Object;ILjava/lang/Object;II)V", sig := { parameters := [(.object "java/lang/Object"), .int, (.object "java/lang/Object"), .int, .int], returnType := none }, accessFlags := 265, code := none }
/-- java/lang/System -/
def k4 : Class := { plain "java/lang/System" (some 0) with
  accessFlags := 49
  interfaces := #[]
  cf := some (fileOf pool4 8 #[.nestMembers #[319, 327, 801, 108, 663, 208]] #[{ accessFlags := 2, nameIndex := 5, descriptorIndex := 6, attributes := #[] }, { accessFlags := 265, nameIndex := 727, descriptorIndex := 728, attributes := #[] }] 49 2 #[] #[{ accessFlags := 25, nameIndex := 507, descriptorIndex := 526, attributes := #[] }, { accessFlags := 25, nameIndex := 399, descriptorIndex := 155, attributes := #[] }, { accessFlags := 25, nameIndex := 396, descriptorIndex := 155, attributes := #[] }, { accessFlags := 10, nameIndex := 525, descriptorIndex := 526, attributes := #[] }, { accessFlags := 26, nameIndex := 674, descriptorIndex := 12, attributes := #[] }, { accessFlags := 26, nameIndex := 677, descriptorIndex := 12, attributes := #[] }, { accessFlags := 10, nameIndex := 11, descriptorIndex := 12, attributes := #[] }, { accessFlags := 74, nameIndex := 175, descriptorIndex := 176, attributes := #[] }, { accessFlags := 10, nameIndex := 491, descriptorIndex := 222, attributes := #[] }, { accessFlags := 74, nameIndex := 29, descriptorIndex := 30, attributes := #[] }, { accessFlags := 74, nameIndex := 154, descriptorIndex := 155, attributes := #[] }, { accessFlags := 10, nameIndex := 217, descriptorIndex := 218, attributes := #[] }, { accessFlags := 10, nameIndex := 221, descriptorIndex := 222, attributes := #[] }, { accessFlags := 8, nameIndex := 562, descriptorIndex := 563, attributes := #[] }])
  fields := #[{ name := "in", type := (.object "java/io/InputStream"), accessFlags := 25, slot := 0, constantValue := 0 }, { name := "out", type := (.object "java/io/PrintStream"), accessFlags := 25, slot := 1, constantValue := 0 }, { name := "err", type := (.object "java/io/PrintStream"), accessFlags := 25, slot := 2, constantValue := 0 }, { name := "initialIn", type := (.object "java/io/InputStream"), accessFlags := 10, slot := 3, constantValue := 0 }, { name := "NEVER", type := .int, accessFlags := 26, slot := 4, constantValue := 0 }, { name := "MAYBE", type := .int, accessFlags := 26, slot := 5, constantValue := 0 }, { name := "allowSecurityManager", type := .int, accessFlags := 10, slot := 6, constantValue := 0 }, { name := "security", type := (.object "java/lang/SecurityManager"), accessFlags := 74, slot := 7, constantValue := 0 }, { name := "notSupportedJnuEncoding", type := (.object "java/lang/String"), accessFlags := 10, slot := 8, constantValue := 0 }, { name := "cons", type := (.object "java/io/Console"), accessFlags := 74, slot := 9, constantValue := 0 }, { name := "initialErrStream", type := (.object "java/io/PrintStream"), accessFlags := 74, slot := 10, constantValue := 0 }, { name := "props", type := (.object "java/util/Properties"), accessFlags := 10, slot := 11, constantValue := 0 }, { name := "lineSeparator", type := (.object "java/lang/String"), accessFlags := 10, slot := 12, constantValue := 0 }, { name := "bootLayer", type := (.object "java/lang/ModuleLayer"), accessFlags := 8, slot := 13, constantValue := 0 }]
  methods := #[k4m0, k4m1]
  instanceTypes := #[]
  staticTypes := #[(.object "java/io/InputStream"), (.object "java/io/PrintStream"), (.object "java/io/PrintStream"), (.object "java/io/InputStream"), .int, .int, .int, (.object "java/lang/SecurityManager"), (.object "java/lang/String"), (.object "java/io/Console"), (.object "java/io/PrintStream"), (.object "java/util/Properties"), (.object "java/lang/String"), (.object "java/lang/ModuleLayer")]
  resolved := Array.replicate 834 none
  statics := none }

def pool5 : Array CpInfo := pool [(2, .class_ 4), (1, u "java/lang/Object"), (0, u "<init>"), (0, u "()V"), (5, u "([IIII)V"), (0, .methodref 14 15), (0, .class_ 16), (0, .nameAndType 17 18), (0, u "java/util/Arrays"), (0, u "rangeCheck"), (0, u "(III)V"), (55, .class_ 76), (1, u "java/util/Arrays$NaturalOrder"), (36, .class_ 115), (1, u "java/util/Arrays$LegacyMergeSort"), (1, u "Z"), (257, .class_ 376), (0, u "java/util/Arrays$ArrayList"), (68, u "$assertionsDisabled"), (269, u "MIN_ARRAY_SORT_GRAN"), (0, u "I"), (2, u "INSERTIONSORT_THRESHOLD"), (120, u "fill"), (134, .class_ 976), (0, u "java/util/Arrays$ArrayItr")] 52

def k5m0 : Method := { name := "<init>", desc := "()V", sig := { parameters := [], returnType := none }, accessFlags := 2, code := none }
def k5c1 : Code := { maxStack := 4, maxLocals := 3, code := jdk_65_method_30_code, exceptionTable := #[], attributes := #[] }
def k5m1 : Method := { name := "rangeCheck", desc := "(III)V", sig := { parameters := [.int, .int, .int], returnType := none }, accessFlags := 8, code := some k5c1 }
def k5c2 : Code := { maxStack := 3, maxLocals := 5, code := jdk_65_method_104_code, exceptionTable := #[], attributes := #[] }
def k5m2 : Method := { name := "fill", desc := "([IIII)V", sig := { parameters := [(.array .int), .int, .int, .int], returnType := none }, accessFlags := 9, code := some k5c2 }
/-- java/util/Arrays -/
def k5 : Class := { plain "java/util/Arrays" (some 0) with
  accessFlags := 49
  interfaces := #[]
  cf := some (fileOf pool5 14 #[.nestMembers #[975, 375, 113, 74]] #[{ accessFlags := 2, nameIndex := 5, descriptorIndex := 6, attributes := #[] }, { accessFlags := 8, nameIndex := 17, descriptorIndex := 18, attributes := #[] }, { accessFlags := 9, nameIndex := 840, descriptorIndex := 12, attributes := #[] }] 49 2 #[] #[{ accessFlags := 26, nameIndex := 715, descriptorIndex := 716, attributes := #[] }, { accessFlags := 26, nameIndex := 719, descriptorIndex := 716, attributes := #[] }, { accessFlags := 4120, nameIndex := 445, descriptorIndex := 117, attributes := #[] }])
  fields := #[{ name := "MIN_ARRAY_SORT_GRAN", type := .int, accessFlags := 26, slot := 0, constantValue := 0 }, { name := "INSERTIONSORT_THRESHOLD", type := .int, accessFlags := 26, slot := 1, constantValue := 0 }, { name := "$assertionsDisabled", type := .boolean, accessFlags := 4120, slot := 2, constantValue := 0 }]
  methods := #[k5m0, k5m1, k5m2]
  instanceTypes := #[]
  staticTypes := #[.int, .int, .boolean]
  resolved := Array.replicate 1029 none
  statics := none }

def pool6 : Array CpInfo := pool [(1, u "java/lang/Cloneable"), (0, .class_ 1), (0, u "java/lang/Object"), (0, .class_ 3)] 3

/-- java/lang/Cloneable -/
def k6 : Class := { plain "java/lang/Cloneable" (some 0) with
  accessFlags := 1537
  interfaces := #[]
  cf := some (fileOf pool6 2 #[] #[] 1537 4 #[] #[])
  fields := #[]
  methods := #[]
  instanceTypes := #[]
  staticTypes := #[]
  resolved := Array.replicate 8 none
  statics := none }

def pool7 : Array CpInfo := pool [(1, u "java/io/Serializable"), (0, .class_ 1), (0, u "java/lang/Object"), (0, .class_ 3)] 3

/-- java/io/Serializable -/
def k7 : Class := { plain "java/io/Serializable" (some 0) with
  accessFlags := 1537
  interfaces := #[]
  cf := some (fileOf pool7 2 #[] #[] 1537 4 #[] #[])
  fields := #[]
  methods := #[]
  instanceTypes := #[]
  staticTypes := #[]
  resolved := Array.replicate 8 none
  statics := none }

/-- the primitive boolean -/
def k8 : Class := { plain "boolean" none with kind := .primitive 'Z', accessFlags := 0x411 }
/-- [Z -/
def k9 : Class := { plain "[Z" (some 0) with kind := .array 8 .boolean, interfaces := #[6, 7], accessFlags := 1041 }

/-- the primitive byte -/
def k10 : Class := { plain "byte" none with kind := .primitive 'B', accessFlags := 0x411 }
/-- [B -/
def k11 : Class := { plain "[B" (some 0) with kind := .array 10 .byte, interfaces := #[6, 7], accessFlags := 1041 }

/-- the primitive int -/
def k12 : Class := { plain "int" none with kind := .primitive 'I', accessFlags := 0x411 }
/-- [I -/
def k13 : Class := { plain "[I" (some 0) with kind := .array 12 .int, interfaces := #[6, 7], accessFlags := 1041 }

/-- the primitive long -/
def k14 : Class := { plain "long" none with kind := .primitive 'J', accessFlags := 0x411 }
/-- [J -/
def k15 : Class := { plain "[J" (some 0) with kind := .array 14 .long, interfaces := #[6, 7], accessFlags := 1041 }

def heap : Heap := #[]
def classes : Array Class := #[k0, k1, k2, k3, k4, k5, k6, k7, k8, k9, k10, k11, k12, k13, k14, k15]
def interned : List (Array UInt16 × Addr) := []
def slotsUsed : Nat := 0
def theMethod : MethodId := ⟨1, 2⟩
def args0 : Array Value := #[.int 5, .int 5, .int 5, .int 5, .int 5]
def aboutOver (below : List Frame) : State where
  vm := { classes := classes, interned := interned.toArray }
  heap := heap
  slotsUsed := slotsUsed
  threads := #[{ frames := .invoking theMethod args0 :: below }]
def below0 : List Frame := [.native { method := ⟨0, 0⟩, args := #[] }]
def about1 : State := aboutOver below0
def p0 : Program := .bare "" "" ""
def e0 : Env := launch0.env 0 0 0
theorem w_frames : about1.frames = Frame.invoking theMethod args0 :: below0 := rfl
set_option maxRecDepth 65536 in
theorem w_args : argsFit about1.vm theMethod args0 = true := by decide +kernel
set_option maxRecDepth 65536 in
theorem w_heap : heapFits about1 = true := by decide +kernel
set_option maxRecDepth 65536 in
theorem w_runnable : about1.curStatus? = some .runnable := by decide +kernel
set_option maxRecDepth 65536 in
theorem w_alone : about1.alone = true := by decide +kernel
set_option maxRecDepth 65536 in
theorem w_named : about1.methodNamed? x = some theMethod := by decide +kernel
set_option maxRecDepth 65536 in
theorem w_hears : about1.hears theMethod below0 = true := by decide +kernel
set_option maxRecDepth 65536 in
theorem w_ripe : about1.ripe theMethod args0 below0 = true := by decide +kernel
theorem w_running : about1.status = .running := rfl
set_option maxRecDepth 65536 in
theorem w_room : about1.hasRoom e0.platform room_1 = true :=
  launch0.hasRoom_least _ room_1 (by decide +kernel) (by decide +kernel) (by decide +kernel) (by decide +kernel) (by decide +kernel) (by decide +kernel)
theorem allAtoms_all (ts : List Jvm.Cond) (a : Array Jvm.Value) (st : Jvm.State) : (allAtoms ts).before a st = ts.all (fun c => c.before a st) := by
  induction ts with
  | nil => rfl
  | cons c t ih =>
    show (Jvm.Cond.and c (allAtoms t)).before a st = _
    rw [Jvm.Cond.before_and, ih, List.all_cons]
def words1 : List Jvm.Cond := Jvm.Cond.code x code maxLocals ret :: tables_1
/-- a 'code' word, met by the world's own term for the bytes: nothing is compared byte by byte -/
theorem code_word {y : MethodName} {bytes : ByteArray} {mx : Nat} {rt : Option FieldType} {a : Array Value} {s : State} {m : MethodId} {meth : Method} {c : Code} (h1 : s.methodNamed? y = some m) (h2 : s.vm.method? m = some meth) (h3 : meth.code = some c) (h4 : c.code = bytes)
    (h5 : (c.maxLocals == mx && c.exceptionTable.isEmpty && decide (c.maxStack ≤ mostOperands) && decide (meth.sig.returnType = rt) && !meth.locks && decide (parseMethodDescriptor y.desc = some meth.sig)) = true) : (Jvm.Cond.code y bytes mx rt).before a s = true := by
  simp only [Bool.and_eq_true, beq_iff_eq, Bool.not_eq_true', decide_eq_true_eq] at h5
  obtain ⟨⟨⟨⟨⟨g1, g2⟩, g3⟩, g4⟩, g5⟩, g6⟩ := h5
  simp [Cond.before, Cond.holds, Cond.value, h1, h2, h3, h4, g1, g2, g3, g4, g5, g6]
def isCode : Jvm.Cond → Bool
  | .code _ _ _ _ => true
  | _ => false
theorem all_split {L : List Jvm.Cond} {P : Jvm.Cond → Bool} (h1 : L.all (fun c => isCode c || P c) = true) (h2 : ∀ c ∈ L.filter isCode, P c = true) : L.all P = true := by
  refine List.all_eq_true.mpr fun c hc => ?_
  have h := List.all_eq_true.mp h1 c hc
  rcases Bool.eq_false_or_eq_true (isCode c) with hi | hi
  · exact h2 c (List.mem_filter.mpr ⟨hc, hi⟩)
  · simpa [hi] using h
set_option maxRecDepth 65536 in
theorem w_c0 : (Jvm.Cond.code x code maxLocals ret).before args0 about1 = true := code_word (m := ⟨1, 2⟩) (meth := k1m2) (c := k1c2) (by decide +kernel) rfl rfl rfl (by decide +kernel)
set_option maxRecDepth 65536 in
theorem w_c1 : (Jvm.Cond.code ({ cls := "com/example/tavola/tavola/profile/CsvReader", name := "<init>", desc := "(Ljava/io/InputStream;)V" } : Jvm.MethodName) prog_81_method_1_code (2 : Nat) (Option.none : Option Jvm.ClassFile.FieldType)).before args0 about1 = true := code_word (m := ⟨2, 0⟩) (meth := k2m0) (c := k2c0) (by decide +kernel) rfl rfl rfl (by decide +kernel)
set_option maxRecDepth 65536 in
theorem w_c2 : (Jvm.Cond.code ({ cls := "java/lang/Object", name := "<init>", desc := "()V" } : Jvm.MethodName) object_method_1_code (1 : Nat) (Option.none : Option Jvm.ClassFile.FieldType)).before args0 about1 = true := code_word (m := ⟨0, 0⟩) (meth := k0m0) (c := k0c0) (by decide +kernel) rfl rfl rfl (by decide +kernel)
set_option maxRecDepth 65536 in
theorem w_c3 : (Jvm.Cond.code ({ cls := "com/example/tavola/tavola/profile/RowBatch", name := "<init>", desc := "(I)V" } : Jvm.MethodName) prog_92_method_1_code (2 : Nat) (Option.none : Option Jvm.ClassFile.FieldType)).before args0 about1 = true := code_word (m := ⟨3, 0⟩) (meth := k3m0) (c := k3c0) (by decide +kernel) rfl rfl rfl (by decide +kernel)
set_option maxRecDepth 65536 in
theorem w_c4 : (Jvm.Cond.code ({ cls := "com/example/tavola/tavola/profile/RowBatch", name := "keyStart", desc := "(I)I" } : Jvm.MethodName) prog_92_method_8_code (2 : Nat) (Option.some Jvm.ClassFile.FieldType.int)).before args0 about1 = true := code_word (m := ⟨3, 2⟩) (meth := k3m2) (c := k3c2) (by decide +kernel) rfl rfl rfl (by decide +kernel)
set_option maxRecDepth 65536 in
theorem w_c5 : (Jvm.Cond.code ({ cls := "com/example/tavola/tavola/profile/RowBatchKeyStartPinLaw", name := "pick", desc := "(I[I[I[I[I)[I" } : Jvm.MethodName) method_2_code (5 : Nat) (Option.some (Jvm.ClassFile.FieldType.array Jvm.ClassFile.FieldType.int))).before args0 about1 = true := code_word (m := ⟨1, 1⟩) (meth := k1m1) (c := k1c1) (by decide +kernel) rfl rfl rfl (by decide +kernel)
set_option maxRecDepth 65536 in
theorem w_c6 : (Jvm.Cond.code ({ cls := "com/example/tavola/tavola/profile/RowBatch", name := "add", desc := "(Lcom/example/tavola/tavola/profile/CsvReader;[IJJJ)I" } : Jvm.MethodName) prog_92_method_2_code (12 : Nat) (Option.some Jvm.ClassFile.FieldType.int)).before args0 about1 = true := code_word (m := ⟨3, 1⟩) (meth := k3m1) (c := k3c1) (by decide +kernel) rfl rfl rfl (by decide +kernel)
set_option maxRecDepth 65536 in
theorem w_c7 : (Jvm.Cond.code ({ cls := "com/example/tavola/tavola/profile/CsvReader", name := "keyLength", desc := "([I)J" } : Jvm.MethodName) prog_81_method_12_code (8 : Nat) (Option.some Jvm.ClassFile.FieldType.long)).before args0 about1 = true := code_word (m := ⟨2, 2⟩) (meth := k2m2) (c := k2c2) (by decide +kernel) rfl rfl rfl (by decide +kernel)
set_option maxRecDepth 65536 in
theorem w_c8 : (Jvm.Cond.code ({ cls := "com/example/tavola/tavola/profile/CsvReader", name := "start", desc := "(I)I" } : Jvm.MethodName) prog_81_method_15_code (2 : Nat) (Option.some Jvm.ClassFile.FieldType.int)).before args0 about1 = true := code_word (m := ⟨2, 4⟩) (meth := k2m4) (c := k2c4) (by decide +kernel) rfl rfl rfl (by decide +kernel)
set_option maxRecDepth 65536 in
theorem w_c9 : (Jvm.Cond.code ({ cls := "com/example/tavola/tavola/profile/CsvReader", name := "copyKey", desc := "([I[BI)V" } : Jvm.MethodName) prog_81_method_14_code (7 : Nat) (Option.none : Option Jvm.ClassFile.FieldType)).before args0 about1 = true := code_word (m := ⟨2, 3⟩) (meth := k2m3) (c := k2c3) (by decide +kernel) rfl rfl rfl (by decide +kernel)
set_option maxRecDepth 65536 in
theorem w_c10 : (Jvm.Cond.code ({ cls := "com/example/tavola/tavola/profile/CsvReader", name := "keyHash", desc := "([I)I" } : Jvm.MethodName) prog_81_method_11_code (6 : Nat) (Option.some Jvm.ClassFile.FieldType.int)).before args0 about1 = true := code_word (m := ⟨2, 1⟩) (meth := k2m1) (c := k2c1) (by decide +kernel) rfl rfl rfl (by decide +kernel)
set_option maxRecDepth 65536 in
theorem w_c11 : (Jvm.Cond.code ({ cls := "java/util/Arrays", name := "fill", desc := "([IIII)V" } : Jvm.MethodName) jdk_65_method_104_code (5 : Nat) (Option.none : Option Jvm.ClassFile.FieldType)).before args0 about1 = true := code_word (m := ⟨5, 2⟩) (meth := k5m2) (c := k5c2) (by decide +kernel) rfl rfl rfl (by decide +kernel)
set_option maxRecDepth 65536 in
theorem w_c12 : (Jvm.Cond.code ({ cls := "java/util/Arrays", name := "rangeCheck", desc := "(III)V" } : Jvm.MethodName) jdk_65_method_30_code (3 : Nat) (Option.none : Option Jvm.ClassFile.FieldType)).before args0 about1 = true := code_word (m := ⟨5, 1⟩) (meth := k5m1) (c := k5c1) (by decide +kernel) rfl rfl rfl (by decide +kernel)
set_option maxRecDepth 65536 in
theorem w_c13 : (Jvm.Cond.code ({ cls := "com/example/tavola/tavola/profile/RowBatch", name := "keyEnd", desc := "(I)I" } : Jvm.MethodName) prog_92_method_9_code (2 : Nat) (Option.some Jvm.ClassFile.FieldType.int)).before args0 about1 = true := code_word (m := ⟨3, 3⟩) (meth := k3m3) (c := k3c3) (by decide +kernel) rfl rfl rfl (by decide +kernel)
def codes1 : List Jvm.Cond := [Jvm.Cond.code x code maxLocals ret, Jvm.Cond.code ({ cls := "com/example/tavola/tavola/profile/CsvReader", name := "<init>", desc := "(Ljava/io/InputStream;)V" } : Jvm.MethodName) prog_81_method_1_code (2 : Nat) (Option.none : Option Jvm.ClassFile.FieldType), Jvm.Cond.code ({ cls := "java/lang/Object", name := "<init>", desc := "()V" } : Jvm.MethodName) object_method_1_code (1 : Nat) (Option.none : Option Jvm.ClassFile.FieldType), Jvm.Cond.code ({ cls := "com/example/tavola/tavola/profile/RowBatch", name := "<init>", desc := "(I)V" } : Jvm.MethodName) prog_92_method_1_code (2 : Nat) (Option.none : Option Jvm.ClassFile.FieldType), Jvm.Cond.code ({ cls := "com/example/tavola/tavola/profile/RowBatch", name := "keyStart", desc := "(I)I" } : Jvm.MethodName) prog_92_method_8_code (2 : Nat) (Option.some Jvm.ClassFile.FieldType.int), Jvm.Cond.code ({ cls := "com/example/tavola/tavola/profile/RowBatchKeyStartPinLaw", name := "pick", desc := "(I[I[I[I[I)[I" } : Jvm.MethodName) method_2_code (5 : Nat) (Option.some (Jvm.ClassFile.FieldType.array Jvm.ClassFile.FieldType.int)), Jvm.Cond.code ({ cls := "com/example/tavola/tavola/profile/RowBatch", name := "add", desc := "(Lcom/example/tavola/tavola/profile/CsvReader;[IJJJ)I" } : Jvm.MethodName) prog_92_method_2_code (12 : Nat) (Option.some Jvm.ClassFile.FieldType.int), Jvm.Cond.code ({ cls := "com/example/tavola/tavola/profile/CsvReader", name := "keyLength", desc := "([I)J" } : Jvm.MethodName) prog_81_method_12_code (8 : Nat) (Option.some Jvm.ClassFile.FieldType.long), Jvm.Cond.code ({ cls := "com/example/tavola/tavola/profile/CsvReader", name := "start", desc := "(I)I" } : Jvm.MethodName) prog_81_method_15_code (2 : Nat) (Option.some Jvm.ClassFile.FieldType.int), Jvm.Cond.code ({ cls := "com/example/tavola/tavola/profile/CsvReader", name := "copyKey", desc := "([I[BI)V" } : Jvm.MethodName) prog_81_method_14_code (7 : Nat) (Option.none : Option Jvm.ClassFile.FieldType), Jvm.Cond.code ({ cls := "com/example/tavola/tavola/profile/CsvReader", name := "keyHash", desc := "([I)I" } : Jvm.MethodName) prog_81_method_11_code (6 : Nat) (Option.some Jvm.ClassFile.FieldType.int), Jvm.Cond.code ({ cls := "java/util/Arrays", name := "fill", desc := "([IIII)V" } : Jvm.MethodName) jdk_65_method_104_code (5 : Nat) (Option.none : Option Jvm.ClassFile.FieldType), Jvm.Cond.code ({ cls := "java/util/Arrays", name := "rangeCheck", desc := "(III)V" } : Jvm.MethodName) jdk_65_method_30_code (3 : Nat) (Option.none : Option Jvm.ClassFile.FieldType), Jvm.Cond.code ({ cls := "com/example/tavola/tavola/profile/RowBatch", name := "keyEnd", desc := "(I)I" } : Jvm.MethodName) prog_92_method_9_code (2 : Nat) (Option.some Jvm.ClassFile.FieldType.int)]
set_option maxRecDepth 65536 in
theorem codes_eq : words1.filter isCode = codes1 := rfl
theorem w_codes : ∀ c ∈ words1.filter isCode, c.before args0 about1 = true := by
  rw [codes_eq]
  intro c hc
  simp only [codes1, List.mem_cons, List.not_mem_nil, or_false] at hc
  rcases hc with rfl | rfl | rfl | rfl | rfl | rfl | rfl | rfl | rfl | rfl | rfl | rfl | rfl | rfl
  · exact w_c0
  · exact w_c1
  · exact w_c2
  · exact w_c3
  · exact w_c4
  · exact w_c5
  · exact w_c6
  · exact w_c7
  · exact w_c8
  · exact w_c9
  · exact w_c10
  · exact w_c11
  · exact w_c12
  · exact w_c13
set_option maxRecDepth 65536 in
theorem w_t1 : (words1.take 24).all (fun c => isCode c || c.before args0 about1) = true := by decide +kernel
set_option maxRecDepth 65536 in
theorem w_t2 : ((words1.drop 24).take 24).all (fun c => isCode c || c.before args0 about1) = true := by decide +kernel
set_option maxRecDepth 65536 in
theorem w_t3 : (((words1.drop 24).drop 24).take 24).all (fun c => isCode c || c.before args0 about1) = true := by decide +kernel
set_option maxRecDepth 65536 in
theorem w_t4 : ((((words1.drop 24).drop 24).drop 24).take 24).all (fun c => isCode c || c.before args0 about1) = true := by decide +kernel
set_option maxRecDepth 65536 in
theorem w_t5 : ((((words1.drop 24).drop 24).drop 24).drop 24).all (fun c => isCode c || c.before args0 about1) = true := by decide +kernel
theorem w_tables : (allAtoms (Jvm.Cond.code x code maxLocals ret :: tables_1)).before args0 about1 = true := by
  rw [allAtoms_all]
  show words1.all (fun c => c.before args0 about1) = true
  refine all_split ?_ w_codes
  rw [← List.take_append_drop 24 words1, List.all_append, w_t1, ← List.take_append_drop 24 (words1.drop 24), List.all_append, w_t2, ← List.take_append_drop 24 ((words1.drop 24).drop 24), List.all_append, w_t3, ← List.take_append_drop 24 (((words1.drop 24).drop 24).drop 24), List.all_append, w_t4, w_t5]
  rfl
set_option maxRecDepth 65536 in
theorem w_case : (Jvm.Cond.and given_1 narrow_1).before args0 about1 = true := by decide +kernel
theorem w_applies : (headSpec (Jvm.Cond.code x code maxLocals ret :: tables_1) room_1).applies x e0.platform about1 = true :=
  (Spec.applies_iff w_frames).mpr ⟨w_running, w_runnable, w_alone, w_named, w_hears, w_ripe, w_room, w_tables⟩
theorem atStart : AtStart classFile x code maxLocals ret World_1 tables_1 room_1 Calls_1 rest_1 Pre_1 launch0 p0 e0 about1 theMethod args0 below0 :=
  ⟨lists_1, trivial, launch0.admits_env _ _ _, launch0.least_env, fairChoices_fair.cas, fairChoices_fair.clock, w_frames, w_args, w_heap, w_applies, trivial, trivial, w_case⟩
end start1
theorem witness_1 : WitnessClaimed_1 := ⟨start1.p0, start1.e0, start1.about1, start1.theMethod, start1.args0, start1.below0, start1.atStart⟩
end Jvm.Pilot.@@N@@
