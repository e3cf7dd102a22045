import JvmDerived
import JvmDerived.Pilot.@@N@@Statement
import JvmDerived.Pilot.@@N@@Code
set_option linter.unusedVariables false
set_option linter.unusedSimpArgs false
namespace Jvm.RoadKit
open Sem ClassFile Op Lib Jvm.Stand Jvm.Free Jvm.LawKit
section New
variable {p : Program} {l : Launch} {e : Env} {R : Room} {s : State} {m : MethodId} {args : Array Value} {below : List Frame} {meth : Method} {c : Code} {T : State} {locs : List Loc} {cells slots : Nat}
theorem retI (X : Stand p l e R s m args below meth c T locs cells slots) (hx : p.tables.exec = Jvm.exec) {pc : Nat} {Ls : Array Slot} {z : Int32} {rest : List Value} (hret : meth.sig.returnType = some .int) (hd : decode c.code pc = .ok (.ireturn, 1)) {fs : List Frame}
    (hl : ∀ (f : JFrame) (acts : List Action), f.method = m → f.locked = none → f.entered = [] → (doReturn e (T.setTop f) acts (some (.int z))).1 = T.setFrames fs) : Steps p.tables e below (T.setTop (mkF m pc Ls (.int z :: rest))) (T.setFrames fs) := by
  have hm' : T.vm.method? m = some meth := X.method'
  have hn : narrow .int (.int z) = .int z := rfl
  show Steps p.tables e below (T.setTop { method := m, pc := pc, locals := Ls, stack := _ :: rest, locked := none }) _
  jvm_step X.here [X.here.top, hx, hd, hm', hret, hn]
  first | (intro acts; rw [hl _ acts rfl rfl rfl]) | rw [hl _ _ rfl rfl rfl]
  exact Steps.refl _
end New
end Jvm.RoadKit

namespace Jvm.Pilot.@@N@@
open Jvm Jvm.ClassFile Sem Op Lib Jvm.Free Jvm.Stand Jvm.LawKit Jvm.RoadKit Bundle Jvm.Pilot.@@N@@.Jvm.D
def own_Go (p : Program) (e : Env) (below : List Frame) (Qf : Outcome → State → Prop) (A : State) : Prop := ∃ s₂ o, Steps p.tables e below A s₂ ∧ s₂.status = .running ∧ Ended s₂ below o ∧ Qf o s₂
theorem own_go {p : Program} {e : Env} {below : List Frame} {Qf : Outcome → State → Prop} {A B : State} (st : ∀ t, Steps p.tables e below B t → Steps p.tables e below A t) (h : own_Go p e below Qf B) : own_Go p e below Qf A := by
  obtain ⟨t, o, h1, h2⟩ := h
  exact ⟨t, o, st t h1, h2⟩
theorem own_fits {v : Value} {t : FieldType} (h : v.isRef = true) (ht : t.isReference = true) : fits t v = true := by
  cases t <;> first | (cases ht; done) | (cases v <;> simp_all [fits, Value.isRef])
theorem own_cg {x y : Int} (h : (x - y) % 18446744073709551616 = 0) (r : -9223372036854775808 ≤ x ∧ x < 9223372036854775808) (a : 0 ≤ y) (b : y < 9223372036854775808) : x = y := by omega
theorem own_id (q0 : Int64) (p1 p2 : Int32) {t id ex : Int64} {w z : Int32} (ht : q0 &&& (2199023255551 : Int64) = t) (hw : p1 &&& (1023 : Int32) = w) (hz : p2 &&& (4095 : Int32) = z)
    (hid : ((((((1767225600000 : Int64) + t) - (1767225600000 : Int64)) <<< ((22 : Int32) &&& 0x3f).toInt64) ||| ((w.toInt64) <<< ((12 : Int32) &&& 0x3f).toInt64)) ||| (z.toInt64)) = id)
    (hex : (((t * (4194304 : Int64)) + ((w.toInt64) * (4096 : Int64))) + (z.toInt64)) = ex) : id = ex ∧ ¬ id < (0 : Int64) := by
  have a1 := c_maskL q0 2199023255551 41 (by decide) (by decide)
  have a2 := c_mask p1 1023 10 (by decide) (by decide)
  have a3 := c_mask p2 4095 12 (by decide) (by decide)
  rw [ht] at a1; rw [hw] at a2; rw [hz] at a3
  have t1 : 0 ≤ t.toInt ∧ t.toInt < 2199023255552 := by omega
  have t2 : 0 ≤ w.toInt ∧ w.toInt < 1024 := by omega
  have t3 : 0 ≤ z.toInt ∧ z.toInt < 4096 := by omega
  clear a1 a2 a3 ht hw hz
  have s0 : ((1767225600000 : Int64) + t) - (1767225600000 : Int64) = t := by
    have b1 := c_ladd 1767225600000 t
    have b2 := c_lsub ((1767225600000 : Int64) + t) 1767225600000
    have b3 : (1767225600000 : Int64).toInt = 1767225600000 := by decide
    rw [b3] at b1 b2
    have c1 := own_cg b1 (rng64 _) (by omega) (by omega)
    rw [c1] at b2
    exact Int64.toInt_inj.mp ((own_cg b2 (rng64 _) (by omega) (by omega)).trans (by omega))
  rw [s0] at hid
  clear s0
  have i1 := c_i2l w
  have i2 := c_i2l z
  have l1 := own_cg (c_lshl t 22 22 (by decide)) (rng64 _) (by omega) (by omega)
  have l2 := own_cg (c_lshl w.toInt64 12 12 (by decide)) (rng64 _) (by omega) (by omega)
  generalize (t <<< ((22 : Int32) &&& 0x3f).toInt64) = A at *
  generalize (w.toInt64 <<< ((12 : Int32) &&& 0x3f).toInt64) = B at *
  have e1 : A.toInt = t.toInt * 4194304 := l1
  have e2 : B.toInt = w.toInt * 4096 := by rw [i1] at l2; exact l2
  clear l1 l2
  have o1 := own_cg (c_orL A B 22 (by decide) 4194304 (by decide) (by omega) (by omega) (by omega)) (rng64 _) (by omega) (by omega)
  have o2 := own_cg (c_orL (A ||| B) z.toInt64 12 (by decide) 4096 (by decide) (by omega) (by omega) (by omega)) (rng64 _) (by omega) (by omega)
  rw [hid] at o2
  have m1 := c_lmul t 4194304
  have m2 := c_lmul w.toInt64 4096
  have n1 : (4194304 : Int64).toInt = 4194304 := by decide
  have n2 : (4096 : Int64).toInt = 4096 := by decide
  rw [n1] at m1; rw [n2, i1] at m2
  have m1' := own_cg m1 (rng64 _) (by clear m1 m2; omega) (by clear m1 m2; omega)
  have m2' := own_cg m2 (rng64 _) (by clear m1 m2; omega) (by clear m1 m2; omega)
  clear m1 m2
  have m3 := c_ladd (t * 4194304) (w.toInt64 * 4096)
  rw [m1', m2'] at m3
  have m3' := own_cg m3 (rng64 _) (by clear m3; omega) (by clear m3; omega)
  clear m3
  have m4 := c_ladd ((t * (4194304 : Int64)) + ((w.toInt64) * (4096 : Int64))) z.toInt64
  rw [m3', i2, hex] at m4
  have m4' := own_cg m4 (rng64 _) (by clear m4; omega) (by clear m4; omega)
  clear m4 m3' m1' m2'
  have z0 : (0 : Int64).toInt = 0 := by decide
  refine ⟨Int64.toInt_inj.mp (by omega), ?_⟩
  rw [Int64.lt_iff_toInt_lt]
  omega
def own_G (Z : State) : Prop := Sta Z Z.heap "com/example/void_repeat/voidrepeat/SnowflakeId" "EPOCH_MILLIS" "J" (.long (1767225600000 : Int64)) ∧ True
theorem d1_0 : decode prog_24_method_3_code 0 = .ok (.lload_n 0, 1) := by decide +kernel
theorem d1_1 : decode prog_24_method_3_code 1 = .ok (.getstatic 29, 3) := by decide +kernel
theorem d1_4 : decode prog_24_method_3_code 4 = .ok (.lsub, 1) := by decide +kernel
theorem d1_5 : decode prog_24_method_3_code 5 = .ok (.bipush 22, 2) := by decide +kernel
theorem d1_7 : decode prog_24_method_3_code 7 = .ok (.lshl, 1) := by decide +kernel
theorem d1_8 : decode prog_24_method_3_code 8 = .ok (.iload_n 2, 1) := by decide +kernel
theorem d1_9 : decode prog_24_method_3_code 9 = .ok (.i2l, 1) := by decide +kernel
theorem d1_10 : decode prog_24_method_3_code 10 = .ok (.bipush 12, 2) := by decide +kernel
theorem d1_12 : decode prog_24_method_3_code 12 = .ok (.lshl, 1) := by decide +kernel
theorem d1_13 : decode prog_24_method_3_code 13 = .ok (.lor, 1) := by decide +kernel
theorem d1_14 : decode prog_24_method_3_code 14 = .ok (.iload_n 3, 1) := by decide +kernel
theorem d1_15 : decode prog_24_method_3_code 15 = .ok (.i2l, 1) := by decide +kernel
theorem d1_16 : decode prog_24_method_3_code 16 = .ok (.lor, 1) := by decide +kernel
theorem d1_17 : decode prog_24_method_3_code 17 = .ok (.lreturn, 1) := by decide +kernel
theorem pn_1 : plainName "com/example/void_repeat/voidrepeat/SnowflakeId" = true := by first | (simp [plainName, overriddenIn]; done) | decide +kernel
theorem ef_rm1 (m : MethodId) (q1 : Int64) (p2 : Int32) (p3 : Int32) : entryFrame m #[(.long q1), (.int p2), (.int p3)] 4 = mkF m 0 #[.val (.long q1), .second, .val (.int p2), .val (.int p3)] [] := by first | (simp [entryFrame, mkF, argsToLocals, Value.category]; done) | rfl
def Q_rm1 (Z : State) (q1 : Int64) (p2 : Int32) (p3 : Int32) (h0 : Heap) (n0 : Nat) (v : Option Value) (h : Heap) (L : List Loc) : Prop := v = some (.long ((((q1 - (1767225600000 : Int64)) <<< ((22 : Int32) &&& 0x3f).toInt64) ||| ((p2.toInt64) <<< ((12 : Int32) &&& 0x3f).toInt64)) ||| (p3.toInt64))) ∧ Fr n0 L ∧ h = h0
set_option maxRecDepth 65536 in
set_option maxHeartbeats 40000000 in
theorem rm1 (l : Launch) (Z : State) (a0 : Array Value) (hw : ∀ d ∈ tables_1, d.before a0 Z = true) (ws : List Jvm.Cond) (G : own_G Z) (q1 : Int64) (p2 : Int32) (p3 : Int32) (h0 : Heap) (n0 : Nat) (Z0 : n0 ≤ h0.size) (O0 : Old Z n0 h0) :
    MetFree l (⟨"com/example/void_repeat/voidrepeat/SnowflakeId", "encode", "(JII)J"⟩ : MethodName) (head1 (Jvm.Cond.code (⟨"com/example/void_repeat/voidrepeat/SnowflakeId", "encode", "(JII)J"⟩ : MethodName) prog_24_method_3_code 4 (some .long) :: ws) ({ frames := 0, cells := 0, slots := 0, locals := 0 } : Room)) (fun a U => a = #[(.long q1), (.int p2), (.int p3)] ∧ Z.Warmed39 U.vm ∧ U.heap = h0) (fun _ _ _ _ _ => True) (fun _ U o U' => ∃ v L, o = .returned v ∧ Q_rm1 Z q1 p2 p3 h0 n0 v U'.heap L ∧ FrameEnd U o U' L ({ frames := 0, cells := 0, slots := 0, locals := 0 } : Room).cells ({ frames := 0, cells := 0, slots := 0, locals := 0 } : Room).slots) := by
  refine MetFree.of_bodySF (plainFor_of_name pn_1) hisR ?_
  intro p e s m args below meth c s₁ Bd hml0 hP hK
  obtain ⟨rfl, hZ, hh⟩ := hP
  have hx := Bd.exec
  have hby := Bd.bytes
  have hml : c.maxLocals = 4 := hml0
  have hown : s.vm.findClass "com/example/void_repeat/voidrepeat/SnowflakeId" = some m.cls := findClass_of_methodNamed Bd.named
  have hnm := (name_of_methodNamed Bd.named Bd.method).1
  have X0 : Stand p l e ({ frames := 0, cells := 0, slots := 0, locals := 0 } : Room) s m #[(.long q1), (.int p2), (.int p3)] below meth c s₁ [] 0 0 := Stand.of_body Bd
  have e0 : s₁.heap = h0 := by rw [← hh, Bd.state]; rfl
  have N0 := Fr.nil n0
  have K0 := Keep.refl h0 ([] : List Addr)
  have G_ := G
  obtain ⟨S_EPOCH, G_end⟩ := G_
  change own_Go p e below _ _
  refine own_go (B := s₁.setTop (mkF m 0 #[.val (.long q1), .second, .val (.int p2), .val (.int p3)] [])) (fun _ k => castTop (ef_rm1 m q1 p2 p3) k) ?_
  refine own_go (B := s₁.setTop (mkF m 1 #[.val (.long q1), .second, .val (.int p2), .val (.int p3)] [(.long q1)])) (fun _ k => XS.lloadN X0.here hx rfl (hb hby d1_0) rfl k) ?_
  obtain ⟨T1, X1, e1, st1⟩ := getS2 X0 hx hZ hown (host := "") (Or.inl (hw _ (List.mem_of_getElem? (i := 6) rfl))) Via.refl e0 (S_EPOCH.ext O0.2) (g := (mkF m 1 #[.val (.long q1), .second, .val (.int p2), .val (.int p3)] [(.long q1)])) rfl (hb hby d1_1)
  refine own_go (B := T1.setTop (mkF m 4 #[.val (.long q1), .second, .val (.int p2), .val (.int p3)] [(.long (1767225600000 : Int64)), (.long q1)])) (st1) ?_
  refine own_go (B := T1.setTop (mkF m 5 #[.val (.long q1), .second, .val (.int p2), .val (.int p3)] [(.long (q1 - (1767225600000 : Int64)))])) (fun _ k => XS.lsub X1.here hx rfl (hb hby d1_4) rfl k) ?_
  refine own_go (B := T1.setTop (mkF m 7 #[.val (.long q1), .second, .val (.int p2), .val (.int p3)] [(.int (22 : Int32)), (.long (q1 - (1767225600000 : Int64)))])) (fun _ k => XS.bipush X1.here hx rfl (hb hby d1_5) k) ?_
  refine own_go (B := T1.setTop (mkF m 8 #[.val (.long q1), .second, .val (.int p2), .val (.int p3)] [(.long ((q1 - (1767225600000 : Int64)) <<< ((22 : Int32) &&& 0x3f).toInt64))])) (fun _ k => XS.lshl X1.here hx rfl (hb hby d1_7) rfl k) ?_
  refine own_go (B := T1.setTop (mkF m 9 #[.val (.long q1), .second, .val (.int p2), .val (.int p3)] [(.int p2), (.long ((q1 - (1767225600000 : Int64)) <<< ((22 : Int32) &&& 0x3f).toInt64))])) (fun _ k => XS.iloadN X1.here hx rfl (hb hby d1_8) rfl k) ?_
  refine own_go (B := T1.setTop (mkF m 10 #[.val (.long q1), .second, .val (.int p2), .val (.int p3)] [(.long (p2.toInt64)), (.long ((q1 - (1767225600000 : Int64)) <<< ((22 : Int32) &&& 0x3f).toInt64))])) (fun _ k => XS.i2l X1.here hx rfl (hb hby d1_9) rfl k) ?_
  refine own_go (B := T1.setTop (mkF m 12 #[.val (.long q1), .second, .val (.int p2), .val (.int p3)] [(.int (12 : Int32)), (.long (p2.toInt64)), (.long ((q1 - (1767225600000 : Int64)) <<< ((22 : Int32) &&& 0x3f).toInt64))])) (fun _ k => XS.bipush X1.here hx rfl (hb hby d1_10) k) ?_
  refine own_go (B := T1.setTop (mkF m 13 #[.val (.long q1), .second, .val (.int p2), .val (.int p3)] [(.long ((p2.toInt64) <<< ((12 : Int32) &&& 0x3f).toInt64)), (.long ((q1 - (1767225600000 : Int64)) <<< ((22 : Int32) &&& 0x3f).toInt64))])) (fun _ k => XS.lshl X1.here hx rfl (hb hby d1_12) rfl k) ?_
  refine own_go (B := T1.setTop (mkF m 14 #[.val (.long q1), .second, .val (.int p2), .val (.int p3)] [(.long (((q1 - (1767225600000 : Int64)) <<< ((22 : Int32) &&& 0x3f).toInt64) ||| ((p2.toInt64) <<< ((12 : Int32) &&& 0x3f).toInt64)))])) (fun _ k => XS.lor X1.here hx rfl (hb hby d1_13) rfl k) ?_
  refine own_go (B := T1.setTop (mkF m 15 #[.val (.long q1), .second, .val (.int p2), .val (.int p3)] [(.int p3), (.long (((q1 - (1767225600000 : Int64)) <<< ((22 : Int32) &&& 0x3f).toInt64) ||| ((p2.toInt64) <<< ((12 : Int32) &&& 0x3f).toInt64)))])) (fun _ k => XS.iloadN X1.here hx rfl (hb hby d1_14) rfl k) ?_
  refine own_go (B := T1.setTop (mkF m 16 #[.val (.long q1), .second, .val (.int p2), .val (.int p3)] [(.long (p3.toInt64)), (.long (((q1 - (1767225600000 : Int64)) <<< ((22 : Int32) &&& 0x3f).toInt64) ||| ((p2.toInt64) <<< ((12 : Int32) &&& 0x3f).toInt64)))])) (fun _ k => XS.i2l X1.here hx rfl (hb hby d1_15) rfl k) ?_
  refine own_go (B := T1.setTop (mkF m 17 #[.val (.long q1), .second, .val (.int p2), .val (.int p3)] [(.long ((((q1 - (1767225600000 : Int64)) <<< ((22 : Int32) &&& 0x3f).toInt64) ||| ((p2.toInt64) <<< ((12 : Int32) &&& 0x3f).toInt64)) ||| (p3.toInt64)))])) (fun _ k => XS.lor X1.here hx rfl (hb hby d1_16) rfl k) ?_
  obtain ⟨fs, hr, hrun, hended, hW, hsame⟩ := X1.leave (v := some (.long ((((q1 - (1767225600000 : Int64)) <<< ((22 : Int32) &&& 0x3f).toInt64) ||| ((p2.toInt64) <<< ((12 : Int32) &&& 0x3f).toInt64)) ||| (p3.toInt64)))) (fun h => by rw [Bd.returns] at h; cases h)
  refine ⟨_, _, retOut X1 hx Bd.returns rfl (Or.inr (Or.inl ⟨rfl, rfl, _, rfl⟩)) (hb hby d1_17) hr, hrun, hended, _, _, rfl, ?_, ⟨_, rfl⟩, hW, hsame.mono (by decide) (by decide)⟩
  show Q_rm1 Z q1 p2 p3 h0 n0 _ T1.heap _
  rw [e1]
  exact ⟨rfl, N0, rfl⟩
theorem pd_0 : parseMethodDescriptor "(JII)J" = some ⟨[.long, .int, .int], some .long⟩ := by decide +kernel
theorem pn_0 : plainName "com/example/void_repeat/voidrepeat/SnowflakeIdEncodePinLaw" = true := by first | (simp [plainName, overriddenIn]; done) | decide +kernel
theorem ef_rm0 (m : MethodId) (q0 : Int64) (p1 : Int32) (p2 : Int32) : entryFrame m #[(.long q0), (.int p1), (.int p2)] maxLocals = mkF m 0 #[.val (.long q0), .second, .val (.int p1), .val (.int p2), .unset, .unset, .unset, .unset, .unset, .unset, .unset, .unset, .unset, .unset] [] := by first | (simp [entryFrame, mkF, argsToLocals, Value.category, maxLocals]; done) | rfl
def Q_rm0 (Z : State) (q0 : Int64) (p1 : Int32) (p2 : Int32) (h0 : Heap) (n0 : Nat) (v : Option Value) (h : Heap) (L : List Loc) : Prop := v = some (.int (1 : Int32)) ∧ Fr n0 L
set_option maxRecDepth 65536 in
set_option maxHeartbeats 40000000 in
theorem rm0 (l : Launch) (Z : State) (a0 : Array Value) (hw : ∀ d ∈ tables_1, d.before a0 Z = true) (ws : List Jvm.Cond) (G : own_G Z) (q0 : Int64) (p1 : Int32) (p2 : Int32) (h0 : Heap) (n0 : Nat) (Z0 : n0 ≤ h0.size) (O0 : Old Z n0 h0) :
    MetFree l x (head1 (Jvm.Cond.code x code maxLocals ret :: ws) room_1) (fun a U => a = #[(.long q0), (.int p1), (.int p2)] ∧ Z.Warmed39 U.vm ∧ U.heap = h0) (fun _ _ _ _ _ => True) (fun _ U o U' => ∃ v L, o = .returned v ∧ Q_rm0 Z q0 p1 p2 h0 n0 v U'.heap L ∧ FrameEnd U o U' L room_1.cells room_1.slots) := by
  refine MetFree.of_bodySF (plainFor_of_name pn_0) hisR ?_
  intro p e s m args below meth c s₁ Bd hml0 hP hK
  obtain ⟨rfl, hZ, hh⟩ := hP
  have hx := Bd.exec
  have hby := Bd.bytes
  have hml : c.maxLocals = 14 := hml0
  have hown : s.vm.findClass "com/example/void_repeat/voidrepeat/SnowflakeIdEncodePinLaw" = some m.cls := findClass_of_methodNamed Bd.named
  have hnm := (name_of_methodNamed Bd.named Bd.method).1
  have X0 : Stand p l e room_1 s m #[(.long q0), (.int p1), (.int p2)] below meth c s₁ [] 0 0 := Stand.of_body Bd
  have e0 : s₁.heap = h0 := by rw [← hh, Bd.state]; rfl
  have N0 := Fr.nil n0
  have K0 := Keep.refl h0 ([] : List Addr)
  have G_ := G
  obtain ⟨S_EPOCH, G_end⟩ := G_
  change own_Go p e below _ _
  refine own_go (B := s₁.setTop (mkF m 0 #[.val (.long q0), .second, .val (.int p1), .val (.int p2), .unset, .unset, .unset, .unset, .unset, .unset, .unset, .unset, .unset, .unset] [])) (fun _ k => castTop (ef_rm0 m q0 p1 p2) k) ?_
  refine own_go (B := s₁.setTop (mkF m 1 #[.val (.long q0), .second, .val (.int p1), .val (.int p2), .unset, .unset, .unset, .unset, .unset, .unset, .unset, .unset, .unset, .unset] [(.long q0)])) (fun _ k => XS.lloadN X0.here hx rfl (hb hby at_0) rfl k) ?_
  refine own_go (B := s₁.setTop (mkF m 4 #[.val (.long q0), .second, .val (.int p1), .val (.int p2), .unset, .unset, .unset, .unset, .unset, .unset, .unset, .unset, .unset, .unset] [(.long (2199023255551 : Int64)), (.long q0)])) (X0.ldc2Long hx hown (mvT hZ (hw _ (List.mem_of_getElem? (i := 0) rfl))) (g := (mkF m 1 #[.val (.long q0), .second, .val (.int p1), .val (.int p2), .unset, .unset, .unset, .unset, .unset, .unset, .unset, .unset, .unset, .unset] [(.long q0)])) rfl (hb hby at_1)) ?_
  refine own_go (B := s₁.setTop (mkF m 5 #[.val (.long q0), .second, .val (.int p1), .val (.int p2), .unset, .unset, .unset, .unset, .unset, .unset, .unset, .unset, .unset, .unset] [(.long (q0 &&& (2199023255551 : Int64)))])) (fun _ k => XS.land X0.here hx rfl (hb hby at_4) rfl k) ?_
  generalize hv5 : (q0 &&& (2199023255551 : Int64)) = v5
  refine own_go (B := s₁.setTop (mkF m 7 #[.val (.long q0), .second, .val (.int p1), .val (.int p2), .val (.long v5), .second, .unset, .unset, .unset, .unset, .unset, .unset, .unset, .unset] [])) (fun _ k => XS.lstore X0.here hx rfl (hb hby at_5) rfl (l' := #[.val (.long q0), .second, .val (.int p1), .val (.int p2), .val (.long v5), .second, .unset, .unset, .unset, .unset, .unset, .unset, .unset, .unset]) rfl k) ?_
  refine own_go (B := s₁.setTop (mkF m 8 #[.val (.long q0), .second, .val (.int p1), .val (.int p2), .val (.long v5), .second, .unset, .unset, .unset, .unset, .unset, .unset, .unset, .unset] [(.int p1)])) (fun _ k => XS.iloadN X0.here hx rfl (hb hby at_7) rfl k) ?_
  refine own_go (B := s₁.setTop (mkF m 11 #[.val (.long q0), .second, .val (.int p1), .val (.int p2), .val (.long v5), .second, .unset, .unset, .unset, .unset, .unset, .unset, .unset, .unset] [(.int (1023 : Int32)), (.int p1)])) (fun _ k => XS.sipush X0.here hx rfl (hb hby at_8) k) ?_
  refine own_go (B := s₁.setTop (mkF m 12 #[.val (.long q0), .second, .val (.int p1), .val (.int p2), .val (.long v5), .second, .unset, .unset, .unset, .unset, .unset, .unset, .unset, .unset] [(.int (p1 &&& (1023 : Int32)))])) (fun _ k => XS.iand X0.here hx rfl (hb hby at_11) rfl k) ?_
  generalize hv12 : (p1 &&& (1023 : Int32)) = v12
  refine own_go (B := s₁.setTop (mkF m 14 #[.val (.long q0), .second, .val (.int p1), .val (.int p2), .val (.long v5), .second, .val (.int v12), .unset, .unset, .unset, .unset, .unset, .unset, .unset] [])) (fun _ k => XS.istore X0.here hx rfl (hb hby at_12) rfl (l' := #[.val (.long q0), .second, .val (.int p1), .val (.int p2), .val (.long v5), .second, .val (.int v12), .unset, .unset, .unset, .unset, .unset, .unset, .unset]) rfl k) ?_
  refine own_go (B := s₁.setTop (mkF m 15 #[.val (.long q0), .second, .val (.int p1), .val (.int p2), .val (.long v5), .second, .val (.int v12), .unset, .unset, .unset, .unset, .unset, .unset, .unset] [(.int p2)])) (fun _ k => XS.iloadN X0.here hx rfl (hb hby at_14) rfl k) ?_
  refine own_go (B := s₁.setTop (mkF m 18 #[.val (.long q0), .second, .val (.int p1), .val (.int p2), .val (.long v5), .second, .val (.int v12), .unset, .unset, .unset, .unset, .unset, .unset, .unset] [(.int (4095 : Int32)), (.int p2)])) (fun _ k => XS.sipush X0.here hx rfl (hb hby at_15) k) ?_
  refine own_go (B := s₁.setTop (mkF m 19 #[.val (.long q0), .second, .val (.int p1), .val (.int p2), .val (.long v5), .second, .val (.int v12), .unset, .unset, .unset, .unset, .unset, .unset, .unset] [(.int (p2 &&& (4095 : Int32)))])) (fun _ k => XS.iand X0.here hx rfl (hb hby at_18) rfl k) ?_
  generalize hv19 : (p2 &&& (4095 : Int32)) = v19
  refine own_go (B := s₁.setTop (mkF m 21 #[.val (.long q0), .second, .val (.int p1), .val (.int p2), .val (.long v5), .second, .val (.int v12), .val (.int v19), .unset, .unset, .unset, .unset, .unset, .unset] [])) (fun _ k => XS.istore X0.here hx rfl (hb hby at_19) rfl (l' := #[.val (.long q0), .second, .val (.int p1), .val (.int p2), .val (.long v5), .second, .val (.int v12), .val (.int v19), .unset, .unset, .unset, .unset, .unset, .unset]) rfl k) ?_
  refine own_go (B := s₁.setTop (mkF m 24 #[.val (.long q0), .second, .val (.int p1), .val (.int p2), .val (.long v5), .second, .val (.int v12), .val (.int v19), .unset, .unset, .unset, .unset, .unset, .unset] [(.long (1767225600000 : Int64))])) (X0.ldc2Long hx hown (mvT hZ (hw _ (List.mem_of_getElem? (i := 1) rfl))) (g := (mkF m 21 #[.val (.long q0), .second, .val (.int p1), .val (.int p2), .val (.long v5), .second, .val (.int v12), .val (.int v19), .unset, .unset, .unset, .unset, .unset, .unset] [])) rfl (hb hby at_21)) ?_
  refine own_go (B := s₁.setTop (mkF m 26 #[.val (.long q0), .second, .val (.int p1), .val (.int p2), .val (.long v5), .second, .val (.int v12), .val (.int v19), .unset, .unset, .unset, .unset, .unset, .unset] [(.long v5), (.long (1767225600000 : Int64))])) (fun _ k => XS.lload X0.here hx rfl (hb hby at_24) rfl k) ?_
  refine own_go (B := s₁.setTop (mkF m 27 #[.val (.long q0), .second, .val (.int p1), .val (.int p2), .val (.long v5), .second, .val (.int v12), .val (.int v19), .unset, .unset, .unset, .unset, .unset, .unset] [(.long ((1767225600000 : Int64) + v5))])) (fun _ k => XS.ladd X0.here hx rfl (hb hby at_26) rfl k) ?_
  refine own_go (B := s₁.setTop (mkF m 29 #[.val (.long q0), .second, .val (.int p1), .val (.int p2), .val (.long v5), .second, .val (.int v12), .val (.int v19), .val (.long ((1767225600000 : Int64) + v5)), .second, .unset, .unset, .unset, .unset] [])) (fun _ k => XS.lstore X0.here hx rfl (hb hby at_27) rfl (l' := #[.val (.long q0), .second, .val (.int p1), .val (.int p2), .val (.long v5), .second, .val (.int v12), .val (.int v19), .val (.long ((1767225600000 : Int64) + v5)), .second, .unset, .unset, .unset, .unset]) rfl k) ?_
  refine own_go (B := s₁.setTop (mkF m 31 #[.val (.long q0), .second, .val (.int p1), .val (.int p2), .val (.long v5), .second, .val (.int v12), .val (.int v19), .val (.long ((1767225600000 : Int64) + v5)), .second, .unset, .unset, .unset, .unset] [(.long ((1767225600000 : Int64) + v5))])) (fun _ k => XS.lload X0.here hx rfl (hb hby at_29) rfl k) ?_
  refine own_go (B := s₁.setTop (mkF m 33 #[.val (.long q0), .second, .val (.int p1), .val (.int p2), .val (.long v5), .second, .val (.int v12), .val (.int v19), .val (.long ((1767225600000 : Int64) + v5)), .second, .unset, .unset, .unset, .unset] [(.int v12), (.long ((1767225600000 : Int64) + v5))])) (fun _ k => XS.iload X0.here hx rfl (hb hby at_31) rfl k) ?_
  refine own_go (B := s₁.setTop (mkF m 35 #[.val (.long q0), .second, .val (.int p1), .val (.int p2), .val (.long v5), .second, .val (.int v12), .val (.int v19), .val (.long ((1767225600000 : Int64) + v5)), .second, .unset, .unset, .unset, .unset] [(.int v19), (.int v12), (.long ((1767225600000 : Int64) + v5))])) (fun _ k => XS.iload X0.here hx rfl (hb hby at_33) rfl k) ?_
  obtain ⟨_, _, ⟨T1, L1, k1, n1⟩, -, X1, ⟨Lc1, hQ1, l1, y1, z1⟩, st1⟩ := Jvm.LawKit.callS X0 hx (y := (⟨"com/example/void_repeat/voidrepeat/SnowflakeId", "encode", "(JII)J"⟩ : MethodName)) hown (mvT hZ (hw _ (List.mem_of_getElem? (i := 2) rfl))) (mvT hZ (hw _ (List.mem_of_getElem? (i := 3) rfl))) (mvT hZ (hw _ (List.mem_of_getElem? (i := 4) rfl))) (mvT hZ (hw _ (List.mem_of_getElem? (i := 5) rfl))) (by decide) (backOf (W := 0) (rm1 l Z a0 hw []  G ((1767225600000 : Int64) + v5) v12 v19 h0 n0 (Nat.le_trans Z0 K0.1) O0 ) hZ (hw _ (List.mem_of_getElem? (i := 5) rfl)) (hw _ (List.mem_of_getElem? (i := 4) rfl)) (by decide) (by decide)) (g := (mkF m 35 #[.val (.long q0), .second, .val (.int p1), .val (.int p2), .val (.long v5), .second, .val (.int v12), .val (.int v19), .val (.long ((1767225600000 : Int64) + v5)), .second, .unset, .unset, .unset, .unset] [(.int v19), (.int v12), (.long ((1767225600000 : Int64) + v5))])) rfl (by rw [hml]; rfl) (argsL := [(.long ((1767225600000 : Int64) + v5)), (.int v12), (.int v19)]) (rest := []) (lenOf pd_0 rfl) rfl (by show 2 * 0 + _ ≤ _; exact Nat.le_of_eq rfl) (hb hby at_35) (fun _ _ => ⟨rfl, e0, (by decide : 0 + 0 ≤ 0), (by decide : 0 + 0 ≤ 0)⟩)
  dsimp only [Pt.U, Pt.locs, Pt.cells, Pt.slots] at X1 l1 y1 z1 st1 hQ1
  subst l1 y1 z1
  obtain ⟨rfl, N1q, K1⟩ := hQ1
  have N1 := Fr.app N0 N1q
  have e1 : T1.heap = h0 := K1
  refine own_go (B := T1.setTop (mkF m 38 #[.val (.long q0), .second, .val (.int p1), .val (.int p2), .val (.long v5), .second, .val (.int v12), .val (.int v19), .val (.long ((1767225600000 : Int64) + v5)), .second, .unset, .unset, .unset, .unset] [(.long ((((((1767225600000 : Int64) + v5) - (1767225600000 : Int64)) <<< ((22 : Int32) &&& 0x3f).toInt64) ||| ((v12.toInt64) <<< ((12 : Int32) &&& 0x3f).toInt64)) ||| (v19.toInt64)))])) (st1) ?_
  generalize hv38 : ((((((1767225600000 : Int64) + v5) - (1767225600000 : Int64)) <<< ((22 : Int32) &&& 0x3f).toInt64) ||| ((v12.toInt64) <<< ((12 : Int32) &&& 0x3f).toInt64)) ||| (v19.toInt64)) = v38
  refine own_go (B := T1.setTop (mkF m 40 #[.val (.long q0), .second, .val (.int p1), .val (.int p2), .val (.long v5), .second, .val (.int v12), .val (.int v19), .val (.long ((1767225600000 : Int64) + v5)), .second, .val (.long v38), .second, .unset, .unset] [])) (fun _ k => XS.lstore X1.here hx rfl (hb hby at_38) rfl (l' := #[.val (.long q0), .second, .val (.int p1), .val (.int p2), .val (.long v5), .second, .val (.int v12), .val (.int v19), .val (.long ((1767225600000 : Int64) + v5)), .second, .val (.long v38), .second, .unset, .unset]) rfl k) ?_
  refine own_go (B := T1.setTop (mkF m 42 #[.val (.long q0), .second, .val (.int p1), .val (.int p2), .val (.long v5), .second, .val (.int v12), .val (.int v19), .val (.long ((1767225600000 : Int64) + v5)), .second, .val (.long v38), .second, .unset, .unset] [(.long v5)])) (fun _ k => XS.lload X1.here hx rfl (hb hby at_40) rfl k) ?_
  refine own_go (B := T1.setTop (mkF m 45 #[.val (.long q0), .second, .val (.int p1), .val (.int p2), .val (.long v5), .second, .val (.int v12), .val (.int v19), .val (.long ((1767225600000 : Int64) + v5)), .second, .val (.long v38), .second, .unset, .unset] [(.long (4194304 : Int64)), (.long v5)])) (X1.ldc2Long hx hown (mvT hZ (hw _ (List.mem_of_getElem? (i := 8) rfl))) (g := (mkF m 42 #[.val (.long q0), .second, .val (.int p1), .val (.int p2), .val (.long v5), .second, .val (.int v12), .val (.int v19), .val (.long ((1767225600000 : Int64) + v5)), .second, .val (.long v38), .second, .unset, .unset] [(.long v5)])) rfl (hb hby at_42)) ?_
  refine own_go (B := T1.setTop (mkF m 46 #[.val (.long q0), .second, .val (.int p1), .val (.int p2), .val (.long v5), .second, .val (.int v12), .val (.int v19), .val (.long ((1767225600000 : Int64) + v5)), .second, .val (.long v38), .second, .unset, .unset] [(.long (v5 * (4194304 : Int64)))])) (fun _ k => XS.lmul X1.here hx rfl (hb hby at_45) rfl k) ?_
  refine own_go (B := T1.setTop (mkF m 48 #[.val (.long q0), .second, .val (.int p1), .val (.int p2), .val (.long v5), .second, .val (.int v12), .val (.int v19), .val (.long ((1767225600000 : Int64) + v5)), .second, .val (.long v38), .second, .unset, .unset] [(.int v12), (.long (v5 * (4194304 : Int64)))])) (fun _ k => XS.iload X1.here hx rfl (hb hby at_46) rfl k) ?_
  refine own_go (B := T1.setTop (mkF m 49 #[.val (.long q0), .second, .val (.int p1), .val (.int p2), .val (.long v5), .second, .val (.int v12), .val (.int v19), .val (.long ((1767225600000 : Int64) + v5)), .second, .val (.long v38), .second, .unset, .unset] [(.long (v12.toInt64)), (.long (v5 * (4194304 : Int64)))])) (fun _ k => XS.i2l X1.here hx rfl (hb hby at_48) rfl k) ?_
  refine own_go (B := T1.setTop (mkF m 52 #[.val (.long q0), .second, .val (.int p1), .val (.int p2), .val (.long v5), .second, .val (.int v12), .val (.int v19), .val (.long ((1767225600000 : Int64) + v5)), .second, .val (.long v38), .second, .unset, .unset] [(.long (4096 : Int64)), (.long (v12.toInt64)), (.long (v5 * (4194304 : Int64)))])) (X1.ldc2Long hx hown (mvT hZ (hw _ (List.mem_of_getElem? (i := 9) rfl))) (g := (mkF m 49 #[.val (.long q0), .second, .val (.int p1), .val (.int p2), .val (.long v5), .second, .val (.int v12), .val (.int v19), .val (.long ((1767225600000 : Int64) + v5)), .second, .val (.long v38), .second, .unset, .unset] [(.long (v12.toInt64)), (.long (v5 * (4194304 : Int64)))])) rfl (hb hby at_49)) ?_
  refine own_go (B := T1.setTop (mkF m 53 #[.val (.long q0), .second, .val (.int p1), .val (.int p2), .val (.long v5), .second, .val (.int v12), .val (.int v19), .val (.long ((1767225600000 : Int64) + v5)), .second, .val (.long v38), .second, .unset, .unset] [(.long ((v12.toInt64) * (4096 : Int64))), (.long (v5 * (4194304 : Int64)))])) (fun _ k => XS.lmul X1.here hx rfl (hb hby at_52) rfl k) ?_
  refine own_go (B := T1.setTop (mkF m 54 #[.val (.long q0), .second, .val (.int p1), .val (.int p2), .val (.long v5), .second, .val (.int v12), .val (.int v19), .val (.long ((1767225600000 : Int64) + v5)), .second, .val (.long v38), .second, .unset, .unset] [(.long ((v5 * (4194304 : Int64)) + ((v12.toInt64) * (4096 : Int64))))])) (fun _ k => XS.ladd X1.here hx rfl (hb hby at_53) rfl k) ?_
  refine own_go (B := T1.setTop (mkF m 56 #[.val (.long q0), .second, .val (.int p1), .val (.int p2), .val (.long v5), .second, .val (.int v12), .val (.int v19), .val (.long ((1767225600000 : Int64) + v5)), .second, .val (.long v38), .second, .unset, .unset] [(.int v19), (.long ((v5 * (4194304 : Int64)) + ((v12.toInt64) * (4096 : Int64))))])) (fun _ k => XS.iload X1.here hx rfl (hb hby at_54) rfl k) ?_
  refine own_go (B := T1.setTop (mkF m 57 #[.val (.long q0), .second, .val (.int p1), .val (.int p2), .val (.long v5), .second, .val (.int v12), .val (.int v19), .val (.long ((1767225600000 : Int64) + v5)), .second, .val (.long v38), .second, .unset, .unset] [(.long (v19.toInt64)), (.long ((v5 * (4194304 : Int64)) + ((v12.toInt64) * (4096 : Int64))))])) (fun _ k => XS.i2l X1.here hx rfl (hb hby at_56) rfl k) ?_
  refine own_go (B := T1.setTop (mkF m 58 #[.val (.long q0), .second, .val (.int p1), .val (.int p2), .val (.long v5), .second, .val (.int v12), .val (.int v19), .val (.long ((1767225600000 : Int64) + v5)), .second, .val (.long v38), .second, .unset, .unset] [(.long (((v5 * (4194304 : Int64)) + ((v12.toInt64) * (4096 : Int64))) + (v19.toInt64)))])) (fun _ k => XS.ladd X1.here hx rfl (hb hby at_57) rfl k) ?_
  generalize hv58 : (((v5 * (4194304 : Int64)) + ((v12.toInt64) * (4096 : Int64))) + (v19.toInt64)) = v58
  refine own_go (B := T1.setTop (mkF m 60 #[.val (.long q0), .second, .val (.int p1), .val (.int p2), .val (.long v5), .second, .val (.int v12), .val (.int v19), .val (.long ((1767225600000 : Int64) + v5)), .second, .val (.long v38), .second, .val (.long v58), .second] [])) (fun _ k => XS.lstore X1.here hx rfl (hb hby at_58) rfl (l' := #[.val (.long q0), .second, .val (.int p1), .val (.int p2), .val (.long v5), .second, .val (.int v12), .val (.int v19), .val (.long ((1767225600000 : Int64) + v5)), .second, .val (.long v38), .second, .val (.long v58), .second]) rfl k) ?_
  refine own_go (B := T1.setTop (mkF m 62 #[.val (.long q0), .second, .val (.int p1), .val (.int p2), .val (.long v5), .second, .val (.int v12), .val (.int v19), .val (.long ((1767225600000 : Int64) + v5)), .second, .val (.long v38), .second, .val (.long v58), .second] [(.long v38)])) (fun _ k => XS.lload X1.here hx rfl (hb hby at_60) rfl k) ?_
  refine own_go (B := T1.setTop (mkF m 64 #[.val (.long q0), .second, .val (.int p1), .val (.int p2), .val (.long v5), .second, .val (.int v12), .val (.int v19), .val (.long ((1767225600000 : Int64) + v5)), .second, .val (.long v38), .second, .val (.long v58), .second] [(.long v58), (.long v38)])) (fun _ k => XS.lload X1.here hx rfl (hb hby at_62) rfl k) ?_
  refine own_go (B := T1.setTop (mkF m 65 #[.val (.long q0), .second, .val (.int p1), .val (.int p2), .val (.long v5), .second, .val (.int v12), .val (.int v19), .val (.long ((1767225600000 : Int64) + v5)), .second, .val (.long v38), .second, .val (.long v58), .second] [(.int (lcmpW v38 v58))])) (fun _ k => XS.lcmp X1.here hx rfl (hb hby at_64) rfl k) ?_
  refine own_go (B := T1.setTop (mkF m 68 #[.val (.long q0), .second, .val (.int p1), .val (.int p2), .val (.long v5), .second, .val (.int v12), .val (.int v19), .val (.long ((1767225600000 : Int64) + v5)), .second, .val (.long v38), .second, .val (.long v58), .second] [])) (fun _ k => XS.ifNo X1.here hx rfl (hb hby at_65) rfl ((if0 _ _).trans (teq ((lw_eq v38 v58).mpr (own_id q0 p1 p2 hv5 hv12 hv19 hv38 hv58).1)).2) k) ?_
  refine own_go (B := T1.setTop (mkF m 70 #[.val (.long q0), .second, .val (.int p1), .val (.int p2), .val (.long v5), .second, .val (.int v12), .val (.int v19), .val (.long ((1767225600000 : Int64) + v5)), .second, .val (.long v38), .second, .val (.long v58), .second] [(.long v38)])) (fun _ k => XS.lload X1.here hx rfl (hb hby at_68) rfl k) ?_
  refine own_go (B := T1.setTop (mkF m 71 #[.val (.long q0), .second, .val (.int p1), .val (.int p2), .val (.long v5), .second, .val (.int v12), .val (.int v19), .val (.long ((1767225600000 : Int64) + v5)), .second, .val (.long v38), .second, .val (.long v58), .second] [(.long (0 : Int64)), (.long v38)])) (fun _ k => XS.lconst X1.here hx rfl (hb hby at_70) k) ?_
  refine own_go (B := T1.setTop (mkF m 72 #[.val (.long q0), .second, .val (.int p1), .val (.int p2), .val (.long v5), .second, .val (.int v12), .val (.int v19), .val (.long ((1767225600000 : Int64) + v5)), .second, .val (.long v38), .second, .val (.long v58), .second] [(.int (lcmpW v38 (0 : Int64)))])) (fun _ k => XS.lcmp X1.here hx rfl (hb hby at_71) rfl k) ?_
  refine own_go (B := T1.setTop (mkF m 75 #[.val (.long q0), .second, .val (.int p1), .val (.int p2), .val (.long v5), .second, .val (.int v12), .val (.int v19), .val (.long ((1767225600000 : Int64) + v5)), .second, .val (.long v38), .second, .val (.long v58), .second] [])) (fun _ k => XS.ifNo X1.here hx rfl (hb hby at_72) rfl ((if0 _ _).trans (flt (fun q => (own_id q0 p1 p2 hv5 hv12 hv19 hv38 hv58).2 ((lw_lt v38 (0 : Int64)).mp q))).1) k) ?_
  refine own_go (B := T1.setTop (mkF m 76 #[.val (.long q0), .second, .val (.int p1), .val (.int p2), .val (.long v5), .second, .val (.int v12), .val (.int v19), .val (.long ((1767225600000 : Int64) + v5)), .second, .val (.long v38), .second, .val (.long v58), .second] [(.int (1 : Int32))])) (fun _ k => XS.iconst X1.here hx rfl (hb hby at_75) k) ?_
  refine own_go (B := T1.setTop (mkF m 80 #[.val (.long q0), .second, .val (.int p1), .val (.int p2), .val (.long v5), .second, .val (.int v12), .val (.int v19), .val (.long ((1767225600000 : Int64) + v5)), .second, .val (.long v38), .second, .val (.long v58), .second] [(.int (1 : Int32))])) (fun _ k => XS.goto X1.here hx rfl (pc0 := 76) (pc' := 80) rfl (hb hby at_76) (by decide) (by decide) k) ?_
  obtain ⟨fs, hr, hrun, hended, hW, hsame⟩ := X1.leave (v := some (.int (nar .boolean (1 : Int32)))) (fun h => by rw [Bd.returns] at h; cases h)
  refine ⟨_, _, retN X1 hx (t := .boolean) Bd.returns (by simp) (hb hby at_80) hr, hrun, hended, _, _, rfl, ?_, ⟨_, rfl⟩, hW, hsame.mono (by decide) (by decide)⟩
  show Q_rm0 Z q0 p1 p2 h0 n0 _ T1.heap _
  rw [e1]
  exact ⟨rfl, N1⟩
set_option maxRecDepth 65536 in
set_option maxHeartbeats 40000000 in
theorem comes_1 {Post : Tables → Env → Array Value → State → Outcome → State → Prop} (hpost : ∀ tb e args s v u, (limb_1_1.after args s (.returned v) u = true ∧ limb_1_2.after args s (.returned v) u = true ∧ True) → FrameEnd s (.returned v) u (Jvm.fieldLocs frame_1_writes args s ++ Jvm.arrayLocs frame_1_arrays args s ++ Jvm.staticLocs frame_1_statics s) 0 0 → Post tb e args s (.returned v) u) :
    ArmFor flags0 classFile x code maxLocals ret World_1 tables_1 room_1 Calls_1 rest_1 Pre_1 Post := by
  intro l hfl _ _ p e ha hc hk s m args below hf hA hF happ hP
  obtain ⟨hcalls, hrest, hpre⟩ := hP
  obtain ⟨-, -, -, hnamed, -, -, -, hat⟩ := (Spec.applies_iff hf).mp happ
  obtain ⟨hg, hn⟩ := and_e (Cond.before_iff.mp (show (Jvm.Cond.and given_1 narrow_1).before args s = true from hpre))
  obtain ⟨hcount, hg1⟩ := and_e hg
  obtain ⟨ga0, hg1'⟩ := and_e hg1
  obtain ⟨ga1, hg1''⟩ := and_e hg1'
  obtain ⟨w0, w1, w2, rfl⟩ : ∃ w0 w1 w2 : Value, args = #[w0, w1, w2] := by
    have hs : args.size = 3 := by simpa [Cond.value, given_1] using hcount
    obtain ⟨L⟩ := args
    match L, hs with
    | [w0, w1, w2], _ => exact ⟨w0, w1, w2, rfl⟩
  have hw := fun d (hd : d ∈ tables_1) => atoms_spec (ws := Jvm.Cond.code x code maxLocals ret :: tables_1) hat d (List.mem_cons_of_mem _ hd)
  have hfit : Fit s := fun {y c} hc i hi => by
    obtain ⟨ha, rfl⟩ := Array.getElem?_eq_some_iff.mp hc
    have q := List.all_eq_true.mp ((Array.all_eq_true_iff_forall_mem.mp hF) _ (Array.getElem_mem ha)) i (List.mem_range.mpr hi)
    simpa [Array.getElem?_eq_getElem hi] using q
  obtain ⟨i0, ei0⟩ := isL_v ga0
  obtain rfl : w0 = (.long i0) := Option.some.inj ei0
  obtain ⟨i1, ei1⟩ := is_v ga1
  obtain rfl : w1 = (.int i1) := Option.some.inj ei1
  obtain ⟨i2, ei2⟩ := is_v hg1''
  obtain rfl : w2 = (.int i2) := Option.some.inj ei2
  obtain ⟨vE, _, evE, ev2, kin, -⟩ := cmp_v (Or.inl hn)
  cases ev2
  have hS : (Term.static "com/example/void_repeat/voidrepeat/SnowflakeId" "EPOCH_MILLIS" "J").eval #[.long i0, .int i1, .int i2] s none [] s = some (.long (1767225600000 : Int64)) := by
    obtain ⟨z, rfl⟩ : ∃ z, vE = .long z := by cases vE <;> simp [Kin, Value.isRef] at kin ⊢
    have q := gotT (eq_L evE (long_at _)) hn
    rw [evE, q]
  have G0 : own_G s := ⟨Sta.start hS (Or.inr ⟨(hw _ (List.mem_of_getElem? (i := 4) rfl)), (hw _ (List.mem_of_getElem? (i := 7) rfl))⟩), trivial⟩
  obtain ⟨n, o, h1, h2, h3, _, L, rfl, ⟨rfl, N⟩, hq⟩ := rm0 l s _ hw tables_1  G0 i0 i1 i2 s.heap s.heap.size (Nat.le_refl _) (Old.start s)  p e ha hc hk s m _ below hf ((Spec.applies_iff_loose hf).mp happ).1 ⟨rfl, State.Warmed39.refl s, rfl⟩ trivial
  refine ⟨n, _, h1, h2, h3, hpost _ _ _ _ _ _ ⟨Cond.after_iff.mpr rfl, Cond.after_iff.mpr (eq_i res_at (Term.int_eval (1)) rfl), trivial⟩ ⟨hq.1, hq.2.1, (hq.2.2.sift fun y hy => Or.inr (N y hy)).mono (by decide) (by decide)⟩⟩
theorem main_1_1 : Claimed_1_1 := comes_1 fun _ _ _ _ _ _ h hF => ⟨h.1, hF⟩
theorem main_1_2 : Claimed_1_2 := comes_1 fun _ _ _ _ _ _ h hF => ⟨h.2.1, hF⟩
end Jvm.Pilot.@@N@@
namespace Jvm.Pilot.@@N@@
open Jvm Jvm.ClassFile Sem Op Lib Jvm.Free Jvm.Stand Jvm.Pilot.@@N@@.Jvm.D
/-! MADE BY PROGRAM (witnessworld.py) out of the Statement's table words and the real class files: 10 classes; the members and pool entries that the words name. The judged class is class 1, her method 1. -/
namespace start1
open Jvm.ClassFile
def u (s : String) : CpInfo := .utf8 (stringToUtf16 s)
/-- a pool by its gaps: so many unusable entries, then the entry; so many at the end -/
def gap : Nat → List CpInfo → List CpInfo
  | 0, r => r
  | n + 1, r => .unusable :: gap n r
def poolList (es : List (Nat × CpInfo)) (last : Nat) : List CpInfo := es.foldr (fun e r => gap e.1 (e.2 :: r)) (gap last [])
def pool (es : List (Nat × CpInfo)) (last : Nat) : Array CpInfo := ⟨poolList es last⟩
def fileOf (pool : Array CpInfo) (this : Nat) (attrs : Array Attribute := #[]) (ms : Array MethodInfo := #[]) (fl : Nat := 33) (sup : Nat := 0) (ifs : Array Nat := #[]) (fds : Array FieldInfo := #[]) : ClassFile where
  minorVersion := 0
  majorVersion := 65
  constantPool := pool
  accessFlags := fl
  thisClass := this
  superClass := sup
  interfaces := ifs
  fields := fds
  methods := ms
  attributes := attrs
def plain (name : String) (sup : Option ClassId) : Class where
  name := name
  kind := .ordinary
  loader := none
  accessFlags := 33
  super := sup
  interfaces := #[]
  cf := none
  fields := #[]
  methods := #[]
  instanceTypes := #[]
  staticTypes := #[]
  resolved := #[]
  callSites := []
  init := .initialized
  statics := none
  mirror := none

def pool0 : Array CpInfo := pool [(5, u "<init>"), (0, u "()V"), (1, .class_ 10), (1, u "java/lang/Object")] 113

def k0m0 : Method := { name := "<init>", desc := "()V", sig := { parameters := [], returnType := none }, accessFlags := 1, code := none }
/-- java/lang/Object -/
def k0 : Class := { plain "java/lang/Object" none with
  accessFlags := 33
  interfaces := #[]
  cf := some (fileOf pool0 8 #[] #[{ accessFlags := 1, nameIndex := 5, descriptorIndex := 6, attributes := #[] }] 33 0 #[] #[])
  fields := #[]
  methods := #[k0m0]
  instanceTypes := #[]
  staticTypes := #[]
  resolved := Array.replicate 124 none
  statics := none }

def pool1 : Array CpInfo := pool [(2, .class_ 4), (1, u "java/lang/Object"), (0, u "<init>"), (0, u "()V"), (0, .long 2199023255551), (1, .long 1767225600000), (1, .methodref 12 13), (0, .class_ 14), (0, .nameAndType 15 16), (0, u "com/example/void_repeat/voidrepeat/SnowflakeId"), (0, u "encode"), (0, u "(JII)J"), (0, .long 4194304), (1, .long 4096), (1, .class_ 22), (0, u "com/example/void_repeat/voidrepeat/SnowflakeIdEncodePinLaw"), (2, u "law"), (0, u "(JII)Z")] 3

def k1m0 : Method := { name := "<init>", desc := "()V", sig := { parameters := [], returnType := none }, accessFlags := 1, code := none }
def k1c1 : Code := { maxStack := 6, maxLocals := 14, code := code, exceptionTable := #[], attributes := #[] }
def k1m1 : Method := { name := "law", desc := "(JII)Z", sig := { parameters := [.long, .int, .int], returnType := some .boolean }, accessFlags := 9, code := some k1c1 }
/-- com/example/void_repeat/voidrepeat/SnowflakeIdEncodePinLaw -/
def k1 : Class := { plain "com/example/void_repeat/voidrepeat/SnowflakeIdEncodePinLaw" (some 0) with
  accessFlags := 49
  interfaces := #[]
  cf := some (fileOf pool1 21 #[] #[{ accessFlags := 1, nameIndex := 5, descriptorIndex := 6, attributes := #[] }, { accessFlags := 9, nameIndex := 25, descriptorIndex := 26, attributes := #[] }] 49 2 #[] #[])
  fields := #[]
  methods := #[k1m0, k1m1]
  instanceTypes := #[]
  staticTypes := #[]
  resolved := Array.replicate 30 none
  statics := none }

def pool2 : Array CpInfo := pool [(2, .class_ 4), (1, u "java/lang/Object"), (0, u "<init>"), (0, u "()V"), (0, .class_ 8), (0, u "java/lang/Record")] 13

def k2m0 : Method := { name := "<init>", desc := "()V", sig := { parameters := [], returnType := none }, accessFlags := 4, code := none }
/-- java/lang/Record -/
def k2 : Class := { plain "java/lang/Record" (some 0) with
  accessFlags := 1057
  interfaces := #[]
  cf := some (fileOf pool2 7 #[] #[{ accessFlags := 4, nameIndex := 5, descriptorIndex := 6, attributes := #[] }] 1057 2 #[] #[])
  fields := #[]
  methods := #[k2m0]
  instanceTypes := #[]
  staticTypes := #[]
  resolved := Array.replicate 22 none
  statics := none }

def pool3 : Array CpInfo := pool [(2, .class_ 4), (1, u "java/lang/Record"), (3, .class_ 10), (1, u "com/example/void_repeat/voidrepeat/SnowflakeId"), (0, u "time"), (0, u "Ljava/time/Instant;"), (2, u "worker"), (0, u "I"), (2, u "sequence"), (9, .fieldref 8 30), (0, .nameAndType 31 32), (0, u "EPOCH_MILLIS"), (0, u "J"), (29, u "EPOCH"), (8, u "LAST_MILLIS"), (0, u "MAX_WORKER"), (2, u "MAX_SEQUENCE"), (1, u "WORKER_SHIFT"), (1, u "TIME_SHIFT"), (7, u "encode"), (0, u "(JII)J")] 35

def k3c0 : Code := { maxStack := 5, maxLocals := 4, code := prog_24_method_3_code, exceptionTable := #[], attributes := #[] }
def k3m0 : Method := { name := "encode", desc := "(JII)J", sig := { parameters := [.long, .int, .int], returnType := some .long }, accessFlags := 8, code := some k3c0 }
/-- com/example/void_repeat/voidrepeat/SnowflakeId -/
def k3 : Class := { plain "com/example/void_repeat/voidrepeat/SnowflakeId" (some 2) with
  accessFlags := 49
  interfaces := #[]
  cf := some (fileOf pool3 8 #[] #[{ accessFlags := 8, nameIndex := 87, descriptorIndex := 88, attributes := #[] }] 49 2 #[] #[{ accessFlags := 18, nameIndex := 11, descriptorIndex := 12, attributes := #[] }, { accessFlags := 18, nameIndex := 15, descriptorIndex := 16, attributes := #[] }, { accessFlags := 18, nameIndex := 19, descriptorIndex := 16, attributes := #[] }, { accessFlags := 25, nameIndex := 62, descriptorIndex := 12, attributes := #[] }, { accessFlags := 24, nameIndex := 72, descriptorIndex := 16, attributes := #[] }, { accessFlags := 24, nameIndex := 75, descriptorIndex := 16, attributes := #[] }, { accessFlags := 24, nameIndex := 31, descriptorIndex := 32, attributes := #[] }, { accessFlags := 24, nameIndex := 71, descriptorIndex := 32, attributes := #[] }, { accessFlags := 26, nameIndex := 77, descriptorIndex := 16, attributes := #[] }, { accessFlags := 26, nameIndex := 79, descriptorIndex := 16, attributes := #[] }])
  fields := #[{ name := "time", type := (.object "java/time/Instant"), accessFlags := 18, slot := 0, constantValue := 0 }, { name := "worker", type := .int, accessFlags := 18, slot := 1, constantValue := 0 }, { name := "sequence", type := .int, accessFlags := 18, slot := 2, constantValue := 0 }, { name := "EPOCH", type := (.object "java/time/Instant"), accessFlags := 25, slot := 0, constantValue := 0 }, { name := "MAX_WORKER", type := .int, accessFlags := 24, slot := 1, constantValue := 0 }, { name := "MAX_SEQUENCE", type := .int, accessFlags := 24, slot := 2, constantValue := 0 }, { name := "EPOCH_MILLIS", type := .long, accessFlags := 24, slot := 3, constantValue := 0 }, { name := "LAST_MILLIS", type := .long, accessFlags := 24, slot := 4, constantValue := 0 }, { name := "WORKER_SHIFT", type := .int, accessFlags := 26, slot := 5, constantValue := 0 }, { name := "TIME_SHIFT", type := .int, accessFlags := 26, slot := 6, constantValue := 0 }]
  methods := #[k3m0]
  instanceTypes := #[(.object "java/time/Instant"), .int, .int]
  staticTypes := #[(.object "java/time/Instant"), .int, .int, .long, .long, .int, .int]
  resolved := Array.replicate 124 none
  statics := some 0 }

def pool4 : Array CpInfo := pool [(1, u "java/lang/Cloneable"), (0, .class_ 1), (0, u "java/lang/Object"), (0, .class_ 3)] 3

/-- java/lang/Cloneable -/
def k4 : Class := { plain "java/lang/Cloneable" (some 0) with
  accessFlags := 1537
  interfaces := #[]
  cf := some (fileOf pool4 2 #[] #[] 1537 4 #[] #[])
  fields := #[]
  methods := #[]
  instanceTypes := #[]
  staticTypes := #[]
  resolved := Array.replicate 8 none
  statics := none }

def pool5 : Array CpInfo := pool [(1, u "java/io/Serializable"), (0, .class_ 1), (0, u "java/lang/Object"), (0, .class_ 3)] 3

/-- java/io/Serializable -/
def k5 : Class := { plain "java/io/Serializable" (some 0) with
  accessFlags := 1537
  interfaces := #[]
  cf := some (fileOf pool5 2 #[] #[] 1537 4 #[] #[])
  fields := #[]
  methods := #[]
  instanceTypes := #[]
  staticTypes := #[]
  resolved := Array.replicate 8 none
  statics := none }

/-- the primitive byte -/
def k6 : Class := { plain "byte" none with kind := .primitive 'B', accessFlags := 0x411 }
/-- [B -/
def k7 : Class := { plain "[B" (some 0) with kind := .array 6 .byte, interfaces := #[4, 5], accessFlags := 1041 }

/-- the primitive int -/
def k8 : Class := { plain "int" none with kind := .primitive 'I', accessFlags := 0x411 }
/-- [I -/
def k9 : Class := { plain "[I" (some 0) with kind := .array 8 .int, interfaces := #[4, 5], accessFlags := 1041 }

def heap : Heap := #[{ cls := 3, slots := #[.null, .int 0, .int 0, .long 1767225600000, .long 0, .int 0, .int 0], vm := .statics 3 }]
def classes : Array Class := #[k0, k1, k2, k3, k4, k5, k6, k7, k8, k9]
def interned : List (Array UInt16 × Addr) := []
def slotsUsed : Nat := 7
def theMethod : MethodId := ⟨1, 1⟩
def args0 : Array Value := #[.long 5, .int 5, .int 6]
def aboutOver (below : List Frame) : State where
  vm := { classes := classes, interned := interned.toArray }
  heap := heap
  slotsUsed := slotsUsed
  threads := #[{ frames := .invoking theMethod args0 :: below }]
def below0 : List Frame := [.native { method := ⟨0, 0⟩, args := #[] }]
def about1 : State := aboutOver below0
def p0 : Program := .bare "" "" ""
def e0 : Env := launch0.env 0 0 0
theorem w_frames : about1.frames = Frame.invoking theMethod args0 :: below0 := rfl
set_option maxRecDepth 65536 in
theorem w_args : argsFit about1.vm theMethod args0 = true := by decide +kernel
set_option maxRecDepth 65536 in
theorem w_heap : heapFits about1 = true := by decide +kernel
set_option maxRecDepth 65536 in
theorem w_runnable : about1.curStatus? = some .runnable := by decide +kernel
set_option maxRecDepth 65536 in
theorem w_alone : about1.alone = true := by decide +kernel
set_option maxRecDepth 65536 in
theorem w_named : about1.methodNamed? x = some theMethod := by decide +kernel
set_option maxRecDepth 65536 in
theorem w_hears : about1.hears theMethod below0 = true := by decide +kernel
set_option maxRecDepth 65536 in
theorem w_ripe : about1.ripe theMethod args0 below0 = true := by decide +kernel
theorem w_running : about1.status = .running := rfl
set_option maxRecDepth 65536 in
theorem w_room : about1.hasRoom e0.platform room_1 = true :=
  launch0.hasRoom_least _ room_1 (by decide +kernel) (by decide +kernel) (by decide +kernel) (by decide +kernel) (by decide +kernel) (by decide +kernel)
theorem allAtoms_all (ts : List Jvm.Cond) (a : Array Jvm.Value) (st : Jvm.State) : (allAtoms ts).before a st = ts.all (fun c => c.before a st) := by
  induction ts with
  | nil => rfl
  | cons c t ih =>
    show (Jvm.Cond.and c (allAtoms t)).before a st = _
    rw [Jvm.Cond.before_and, ih, List.all_cons]
def words1 : List Jvm.Cond := Jvm.Cond.code x code maxLocals ret :: tables_1
/-- a 'code' word, met by the world's own term for the bytes: nothing is compared byte by byte -/
theorem code_word {y : MethodName} {bytes : ByteArray} {mx : Nat} {rt : Option FieldType} {a : Array Value} {s : State} {m : MethodId} {meth : Method} {c : Code} (h1 : s.methodNamed? y = some m) (h2 : s.vm.method? m = some meth) (h3 : meth.code = some c) (h4 : c.code = bytes)
    (h5 : (c.maxLocals == mx && c.exceptionTable.isEmpty && decide (c.maxStack ≤ mostOperands) && decide (meth.sig.returnType = rt) && !meth.locks && decide (parseMethodDescriptor y.desc = some meth.sig)) = true) : (Jvm.Cond.code y bytes mx rt).before a s = true := by
  simp only [Bool.and_eq_true, beq_iff_eq, Bool.not_eq_true', decide_eq_true_eq] at h5
  obtain ⟨⟨⟨⟨⟨g1, g2⟩, g3⟩, g4⟩, g5⟩, g6⟩ := h5
  simp [Cond.before, Cond.holds, Cond.value, h1, h2, h3, h4, g1, g2, g3, g4, g5, g6]
def isCode : Jvm.Cond → Bool
  | .code _ _ _ _ => true
  | _ => false
theorem all_split {L : List Jvm.Cond} {P : Jvm.Cond → Bool} (h1 : L.all (fun c => isCode c || P c) = true) (h2 : ∀ c ∈ L.filter isCode, P c = true) : L.all P = true := by
  refine List.all_eq_true.mpr fun c hc => ?_
  have h := List.all_eq_true.mp h1 c hc
  rcases Bool.eq_false_or_eq_true (isCode c) with hi | hi
  · exact h2 c (List.mem_filter.mpr ⟨hc, hi⟩)
  · simpa [hi] using h
set_option maxRecDepth 65536 in
theorem w_c0 : (Jvm.Cond.code x code maxLocals ret).before args0 about1 = true := code_word (m := ⟨1, 1⟩) (meth := k1m1) (c := k1c1) (by decide +kernel) rfl rfl rfl (by decide +kernel)
set_option maxRecDepth 65536 in
theorem w_c1 : (Jvm.Cond.code ({ cls := "com/example/void_repeat/voidrepeat/SnowflakeId", name := "encode", desc := "(JII)J" } : Jvm.MethodName) prog_24_method_3_code (4 : Nat) (Option.some Jvm.ClassFile.FieldType.long)).before args0 about1 = true := code_word (m := ⟨3, 0⟩) (meth := k3m0) (c := k3c0) (by decide +kernel) rfl rfl rfl (by decide +kernel)
def codes1 : List Jvm.Cond := [Jvm.Cond.code x code maxLocals ret, Jvm.Cond.code ({ cls := "com/example/void_repeat/voidrepeat/SnowflakeId", name := "encode", desc := "(JII)J" } : Jvm.MethodName) prog_24_method_3_code (4 : Nat) (Option.some Jvm.ClassFile.FieldType.long)]
set_option maxRecDepth 65536 in
theorem codes_eq : words1.filter isCode = codes1 := rfl
theorem w_codes : ∀ c ∈ words1.filter isCode, c.before args0 about1 = true := by
  rw [codes_eq]
  intro c hc
  simp only [codes1, List.mem_cons, List.not_mem_nil, or_false] at hc
  rcases hc with rfl | rfl
  · exact w_c0
  · exact w_c1
set_option maxRecDepth 65536 in
theorem w_t1 : words1.all (fun c => isCode c || c.before args0 about1) = true := by decide +kernel
theorem w_tables : (allAtoms (Jvm.Cond.code x code maxLocals ret :: tables_1)).before args0 about1 = true := by
  rw [allAtoms_all]
  show words1.all (fun c => c.before args0 about1) = true
  refine all_split ?_ w_codes
  rw [w_t1]
set_option maxRecDepth 65536 in
theorem w_case : (Jvm.Cond.and given_1 narrow_1).before args0 about1 = true := by decide +kernel
theorem w_applies : (headSpec (Jvm.Cond.code x code maxLocals ret :: tables_1) room_1).applies x e0.platform about1 = true :=
  (Spec.applies_iff w_frames).mpr ⟨w_running, w_runnable, w_alone, w_named, w_hears, w_ripe, w_room, w_tables⟩
theorem atStart : AtStart classFile x code maxLocals ret World_1 tables_1 room_1 Calls_1 rest_1 Pre_1 launch0 p0 e0 about1 theMethod args0 below0 :=
  ⟨lists_1, trivial, launch0.admits_env _ _ _, launch0.least_env, fairChoices_fair.cas, fairChoices_fair.clock, w_frames, w_args, w_heap, w_applies, trivial, trivial, w_case⟩
end start1
theorem witness_1 : WitnessClaimed_1 := ⟨start1.p0, start1.e0, start1.about1, start1.theMethod, start1.args0, start1.below0, start1.atStart⟩
end Jvm.Pilot.@@N@@
