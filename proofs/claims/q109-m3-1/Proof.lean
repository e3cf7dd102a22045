import JvmDerived
import JvmDerived.Pilot.@@N@@Statement
import JvmDerived.Pilot.@@N@@Code
set_option linter.unusedVariables false
set_option linter.unusedSimpArgs false
namespace Jvm.RoadKit
open Sem ClassFile Op Lib Jvm.Stand Jvm.Free Jvm.LawKit
section New
variable {p : Program} {l : Launch} {e : Env} {R : Room} {s : State} {m : MethodId} {args : Array Value} {below : List Frame} {meth : Method} {c : Code} {T : State} {locs : List Loc} {cells slots : Nat}
theorem retI (X : Stand p l e R s m args below meth c T locs cells slots) (hx : p.tables.exec = Jvm.exec) {pc : Nat} {Ls : Array Slot} {z : Int32} {rest : List Value} (hret : meth.sig.returnType = some .int) (hd : decode c.code pc = .ok (.ireturn, 1)) {fs : List Frame}
    (hl : ∀ (f : JFrame) (acts : List Action), f.method = m → f.locked = none → f.entered = [] → (doReturn e (T.setTop f) acts (some (.int z))).1 = T.setFrames fs) : Steps p.tables e below (T.setTop (mkF m pc Ls (.int z :: rest))) (T.setFrames fs) := by
  have hm' : T.vm.method? m = some meth := X.method'
  have hn : narrow .int (.int z) = .int z := rfl
  show Steps p.tables e below (T.setTop { method := m, pc := pc, locals := Ls, stack := _ :: rest, locked := none }) _
  jvm_step X.here [X.here.top, hx, hd, hm', hret, hn]
  first | (intro acts; rw [hl _ acts rfl rfl rfl]) | rw [hl _ _ rfl rfl rfl]
  exact Steps.refl _
end New
end Jvm.RoadKit

namespace Jvm.Pilot.@@N@@
open Jvm Jvm.ClassFile Sem Op Lib Jvm.Free Jvm.Stand Jvm.LawKit Jvm.RoadKit Bundle Jvm.Pilot.@@N@@.Jvm.D
def own_Go (p : Program) (e : Env) (below : List Frame) (Qf : Outcome → State → Prop) (A : State) : Prop := ∃ s₂ o, Steps p.tables e below A s₂ ∧ s₂.status = .running ∧ Ended s₂ below o ∧ Qf o s₂
theorem own_go {p : Program} {e : Env} {below : List Frame} {Qf : Outcome → State → Prop} {A B : State} (st : ∀ t, Steps p.tables e below B t → Steps p.tables e below A t) (h : own_Go p e below Qf B) : own_Go p e below Qf A := by
  obtain ⟨t, o, h1, h2⟩ := h
  exact ⟨t, o, st t h1, h2⟩
theorem own_c0 : (([] : List Value).map fun v => v.category).sum ≤ 0 := Nat.le_refl _
theorem own_cK {v : Value} {L : List Value} {n c : Nat} (k : (L.map fun v => v.category).sum ≤ n) (h : v.category = c) : ((v :: L).map fun v => v.category).sum ≤ n + c := by
  rw [List.map_cons, List.sum_cons, h, Nat.add_comm]; exact Nat.add_le_add_right k c
theorem own_cW {L : List Value} {n : Nat} (k : (L.map fun v => v.category).sum ≤ n) : 2 * 0 + (L.map fun v => v.category).sum ≤ n := by
  rw [Nat.mul_zero, Nat.zero_add]; exact k
theorem own_fits {v : Value} {t : FieldType} (h : v.isRef = true) (ht : t.isReference = true) : fits t v = true := by
  cases t <;> first | (cases ht; done) | (cases v <;> simp_all [fits, Value.isRef])
theorem own_eqr {Z : State} {args : Array Value} {X F : Term} {idx : List Nat} {y : Addr} (hF : F.eval args Z none idx Z = some (.ref y)) (h : (Jvm.Cond.eq X F).value args Z none Z idx = some true) : X.eval args Z none idx Z = some (.ref y) := by
  obtain ⟨x, y', e1, e2, k1, k2⟩ := cmp_v (Or.inl h)
  cases hF.symm.trans e2
  have hx : x.isRef = true := k2.2
  exact e1.trans (congrArg some (gotT (eq_R e1 hF hx rfl) h))
theorem own_len {Z : State} {args : Array Value} {t : Term} {a : Addr} {c : Cell} {ty : FieldType} {n : Int32} (ev : t.eval args Z none [] Z = some (.ref a)) (A : Arr Z Z.heap a c ty) (h : (Jvm.Cond.eq (Term.length t) (Term.int n)).value args Z none Z [] = some true) : c.slots.size < 2 ^ 31 ∧ c.slots.size.toInt32 = n := by
  have l := eqv_i (y := n) rfl h
  have q := Jvm.Free.SBG.length_lt ev (A.fin (Vm.Alike.refl _)) l
  have e := len_f ev (A.fin (Vm.Alike.refl _)) q
  rw [e] at l
  exact ⟨q, Value.int.inj (Option.some.inj l)⟩
theorem own_el {Z : State} {args : Array Value} {t : Term} {a : Addr} {c : Cell} {ty : FieldType} {j : Int32} {v : Value} (ev : t.eval args Z none [] Z = some (.ref a)) (A : Arr Z Z.heap a c ty) (h : (Term.elem t (Term.int j)).eval args Z none [] Z = some v) : c.slots[j.toNatClampNeg]? = some v := (elem_in h ev rfl A.1).2
theorem own_bxs {Z : State} {args : Array Value} {t : Term} {a : Addr} {c : Cell} (et : ∀ idx, t.eval args Z none idx Z = some (.ref a)) (A : Arr Z Z.heap a c (.object "java/lang/Integer")) (L : c.slots.size < 2 ^ 31 ∧ c.slots.size.toInt32 = (256 : Int32))
    (h : (Jvm.Cond.all t (.and (.exactly (.elem t (.index 0)) "java/lang/Integer") (.eq (.field (.elem t (.index 0)) "java/lang/Integer" "value" "I") (.sub (.index 0) (.int 128))))).value args Z none Z [] = some true) :
    Bxs Z a c "java/lang/Integer" "I" (256 : Int32) (fun j => .int (j - 128)) := by
  refine Bxs.start et A L.1 L.2 (by decide) h fun X j nn hX => ?_
  have q : (Term.sub (.index 0) (.int 128)).eval args Z none [j.toNatClampNeg] Z = some (.int (j - 128)) := by
    have q := idx_at (args := args) (first := Z) (o := none) (s := Z) nn
    simp only [Term.eval] at q ⊢
    rw [q]
    rfl
  exact eqv_i q hX
theorem own_place (q : Int32) (h1 : ¬ q < (-128 : Int32)) (h2 : ¬ (127 : Int32) < q) : ¬ (q + (128 : Int32)) < 0 ∧ (q + (128 : Int32)) < (256 : Int32) := by
  have o1 : (-128 : Int32).toInt = -128 := by decide
  have o2 : (127 : Int32).toInt = 127 := by decide
  have o3 : (128 : Int32).toInt = 128 := by decide
  have o4 : (256 : Int32).toInt = 256 := by decide
  have o5 : (0 : Int32).toInt = 0 := by decide
  have a2 := c_iadd q 128
  have r2 := rng32 (q + 128)
  rw [o3] at a2
  simp only [Int32.lt_iff_toInt_lt, o1, o2, o4, o5] at h1 h2 ⊢
  omega
theorem own_back (q : Int32) : q + (128 : Int32) - 128 = q := by
  have a1 := c_iadd q 128
  have a2 := c_isub (q + 128) 128
  have r1 := rng32 (q + 128 - 128)
  have r2 := rng32 q
  have o3 : (128 : Int32).toInt = 128 := by decide
  rw [o3] at a1 a2
  exact Int32.toInt_inj.mp (by omega)
def own_ni (Z : State) (h : Heap) (v : Value) : Option Int32 → Prop
  | none => v = .null
  | some x => ∃ r, v = .ref r ∧ Exa Z h r "java/lang/Integer" ∧ Fld Z h r "java/lang/Integer" "value" "I" (.int x)
theorem own_ni_ext {Z : State} {h h' : Heap} {v : Value} {o : Option Int32} (E : Ext h h') (F : own_ni Z h v o) : own_ni Z h' v o := by
  cases o with
  | none => exact F
  | some x => obtain ⟨r, h1, h2, h3⟩ := F; exact ⟨r, h1, h2.ext E, h3.ext E⟩
theorem own_ni_keep {Z : State} {h h' : Heap} {v : Value} {o : Option Int32} {ws : List Addr} (K : Keep h h' ws) (W : ∀ w ∈ ws, Exa Z h w "com/example/roomwire/roomwire/core/NightState") (F : own_ni Z h v o) : own_ni Z h' v o := by
  cases o with
  | none => exact F
  | some x => obtain ⟨r, h1, h2, h3⟩ := F; exact ⟨r, h1, h2.keep K, h3.keep K fun q => (Exa.ne h2 (W r q) (by decide)) rfl⟩
theorem own_ni_ref {Z : State} {h : Heap} {v : Value} {o : Option Int32} (F : own_ni Z h v o) : v.isRef = true := by
  cases o with
  | none => rw [show v = .null from F]; rfl
  | some x => obtain ⟨r, rfl, -⟩ := F; rfl
def own_ok (Z : State) (h : Heap) (v : Value) (K : String) : Prop := v = .null ∨ ∃ r, v = .ref r ∧ Exa Z h r K
theorem own_ok_ext {Z : State} {h h' : Heap} {v : Value} {K : String} (E : Ext h h') (F : own_ok Z h v K) : own_ok Z h' v K := F.imp id fun ⟨r, h1, h2⟩ => ⟨r, h1, h2.ext E⟩
theorem own_ok_ni {Z : State} {h : Heap} {v : Value} {o : Option Int32} (F : own_ni Z h v o) : own_ok Z h v "java/lang/Integer" := by
  cases o with
  | none => exact Or.inl F
  | some x => obtain ⟨r, h1, h2, -⟩ := F; exact Or.inr ⟨r, h1, h2⟩
def own_pk (a b : Value) : Value := if a = .null then b else a
theorem own_pk_ref {a b : Value} (h1 : a.isRef = true) (h2 : b.isRef = true) : (own_pk a b).isRef = true := by unfold own_pk; split <;> assumption
theorem own_ok_pk {Z : State} {h : Heap} {a b : Value} {K : String} (h1 : own_ok Z h a K) (h2 : own_ok Z h b K) : own_ok Z h (own_pk a b) K := by unfold own_pk; split <;> assumption
theorem own_ni_pk {Z : State} {h : Heap} {a b : Value} {A B : Prop} [Decidable A] [Decidable B] {x y : Int32} (h1 : own_ni Z h a (if A then some x else none)) (h2 : own_ni Z h b (if B then some y else none)) : own_ni Z h (own_pk a b) (if A then some x else if B then some y else none) := by
  by_cases hA : A
  · rw [if_pos hA] at h1 ⊢
    obtain ⟨r, rfl, h3⟩ := h1
    exact ⟨r, by simp [own_pk], h3⟩
  · rw [if_neg hA] at h1 ⊢
    have e : a = .null := h1
    subst e
    simpa [own_pk] using h2
def own_code (f k : Int32) : Int32 := if ((f.toUInt32 >>> (k &&& 31).toUInt32).toInt32 &&& (3 : Int32)) = 3 then 0 else ((f.toUInt32 >>> (k &&& 31).toUInt32).toInt32 &&& (3 : Int32))
theorem own_code_rng (f k : Int32) : own_code f k = 0 ∨ own_code f k = 1 ∨ own_code f k = 2 := by
  unfold own_code
  have a := c_mask ((f.toUInt32 >>> (k &&& 31).toUInt32).toInt32) 3 2 (by decide) (by decide)
  generalize ((f.toUInt32 >>> (k &&& 31).toUInt32).toInt32 &&& (3 : Int32)) = y at *
  have o0 : (0 : Int32).toInt = 0 := by decide
  have o1 : (1 : Int32).toInt = 1 := by decide
  have o2 : (2 : Int32).toInt = 2 := by decide
  have o3 : (3 : Int32).toInt = 3 := by decide
  by_cases h : y = 3
  · simp [h]
  · simp only [h, if_false]
    simp only [← Int32.toInt_inj, o0, o1, o2, o3] at h ⊢
    omega
def own_stv (k : Int32) (a b : Addr) : Value := if k = 1 then .ref a else if k = 2 then .ref b else .null
theorem own_stv_ref (k : Int32) (a b : Addr) : (own_stv k a b).isRef = true := by unfold own_stv; split; rfl; split <;> rfl
theorem own_stv_ok {Z : State} {h : Heap} {k : Int32} {a b : Addr} {K : String} (h1 : Exa Z h a K) (h2 : Exa Z h b K) : own_ok Z h (own_stv k a b) K := by
  unfold own_stv
  split
  · exact Or.inr ⟨_, rfl, h1⟩
  · split
    · exact Or.inr ⟨_, rfl, h2⟩
    · exact Or.inl rfl
theorem own_castV {p : Program} {l : Launch} {e : Env} {R : Room} {s : State} {m : MethodId} {args : Array Value} {below : List Frame} {meth : Method} {c : Code} {T : State} {locs : List Loc} {cells slots : Nat} {Z : State} {a0 : Array Value} {h : Heap}
    (X : Stand p l e R s m args below meth c T locs cells slots) (hx : p.tables.exec = Jvm.exec) (hZ : Z.Warmed39 s.vm) {own K : String} {index : Nat} (hown : s.vm.findClass own = some m.cls) (w : (Jvm.Cond.classLink own index K).before a0 Z = true) (eT : T.heap = h) {v : Value} (F : own_ok Z h v K)
    {g : JFrame} (hg : g.method = m) {rest : List Value} (hs : g.stack = v :: rest) (hd : decode c.code g.pc = .ok (.checkcast index, 3)) : ∃ T', Stand p l e R s m args below meth c T' locs cells slots ∧ T'.heap = h ∧ ∀ target, Steps p.tables e below (T'.setTop { g with pc := g.pc + 3 }) target → Steps p.tables e below (T.setTop g) target := by
  rcases F with rfl | ⟨r, rfl, E⟩
  · exact ⟨T, X, eT, X.checkcastNull hx hg hs hd⟩
  · exact castY X hx hZ hown w eT (Ins.self E) hg hs hd
def own_G (Z : State) (wO : Addr) (wC : Addr) (wI : Addr) (cB : Cell) : Prop := Sta Z Z.heap "com/example/roomwire/roomwire/core/Status" "OPEN" "Lcom/example/roomwire/roomwire/core/Status;" (.ref wO) ∧ Exa Z Z.heap wO "com/example/roomwire/roomwire/core/Status" ∧ Sta Z Z.heap "com/example/roomwire/roomwire/core/Status" "CLOSED" "Lcom/example/roomwire/roomwire/core/Status;" (.ref wC) ∧ Exa Z Z.heap wC "com/example/roomwire/roomwire/core/Status" ∧ Sta Z Z.heap "java/lang/Integer$IntegerCache" "cache" "[Ljava/lang/Integer;" (.ref wI) ∧ Exa Z Z.heap wI "[Ljava/lang/Integer;" ∧ Sta Z Z.heap "java/lang/Integer$IntegerCache" "high" "I" (.int (127 : Int32)) ∧ Bxs Z wI cB "java/lang/Integer" "I" (256 : Int32) (fun j => .int (j - 128)) ∧ True
theorem d6_0 : decode jdk_18_method_1_code 0 = .ok (.aload_n 0, 1) := by decide +kernel
theorem d6_1 : decode jdk_18_method_1_code 1 = .ok (.invokespecial 1, 3) := by decide +kernel
theorem d6_4 : decode jdk_18_method_1_code 4 = .ok (.return_, 1) := by decide +kernel
theorem pn_6 : plainName "java/lang/Number" = true := by first | (simp [plainName, overriddenIn]; done) | decide +kernel
theorem ef_rm6 (m : MethodId) (a1 : Addr) : entryFrame m #[(.ref a1)] 1 = mkF m 0 #[.val (.ref a1)] [] := by first | (simp [entryFrame, mkF, argsToLocals, Value.category]; done) | rfl
def Q_rm6 (Z : State) (wO : Addr) (wC : Addr) (wI : Addr) (cB : Cell) (a1 : Addr) (h0 : Heap) (n0 : Nat) (v : Option Value) (h : Heap) (L : List Loc) : Prop := v = none ∧ Fr n0 L ∧ h = h0
set_option maxRecDepth 65536 in
set_option maxHeartbeats 40000000 in
theorem rm6 (l : Launch) (Z : State) (a0 : Array Value) (hw : ∀ d ∈ tables_1, d.before a0 Z = true) (ws : List Jvm.Cond) (wO : Addr) (wC : Addr) (wI : Addr) (cB : Cell) (G : own_G Z wO wC wI cB) (a1 : Addr) (h0 : Heap) (n0 : Nat) (Z0 : n0 ≤ h0.size) (O0 : Old Z n0 h0) :
    MetFree l (⟨"java/lang/Number", "<init>", "()V"⟩ : MethodName) (head1 (Jvm.Cond.code (⟨"java/lang/Number", "<init>", "()V"⟩ : MethodName) jdk_18_method_1_code 1 none :: ws) ({ frames := 1, cells := 0, slots := 0, locals := 12 } : Room)) (fun a U => a = #[(.ref a1)] ∧ Z.Warmed39 U.vm ∧ U.heap = h0) (fun _ _ _ _ _ => True) (fun _ U o U' => ∃ v L, o = .returned v ∧ Q_rm6 Z wO wC wI cB a1 h0 n0 v U'.heap L ∧ FrameEnd U o U' L ({ frames := 1, cells := 0, slots := 0, locals := 12 } : Room).cells ({ frames := 1, cells := 0, slots := 0, locals := 12 } : Room).slots) := by
  refine MetFree.of_bodySF (plainFor_of_name pn_6) hisR ?_
  intro p e s m args below meth c s₁ Bd hml0 hP hK
  obtain ⟨rfl, hZ, hh⟩ := hP
  have hx := Bd.exec
  have hby := Bd.bytes
  have hml : c.maxLocals = 1 := hml0
  have hown : s.vm.findClass "java/lang/Number" = some m.cls := findClass_of_methodNamed Bd.named
  have hnm := (name_of_methodNamed Bd.named Bd.method).1
  have X0 : Stand p l e ({ frames := 1, cells := 0, slots := 0, locals := 12 } : Room) s m #[(.ref a1)] below meth c s₁ [] 0 0 := Stand.of_body Bd
  have e0 : s₁.heap = h0 := by rw [← hh, Bd.state]; rfl
  have N0 := Fr.nil n0
  have K0 := Keep.refl h0 ([] : List Addr)
  have G_ := G
  obtain ⟨S_Status_OPEN, E_wO, S_Status_CLOSED, E_wC, S_Integer_IntegerCache_cache, E_wI, S_Integer_IntegerCache_high, BX, G_end⟩ := G_
  change own_Go p e below _ _
  refine own_go (B := s₁.setTop (mkF m 0 #[.val (.ref a1)] [])) (fun _ k => castTop (ef_rm6 m a1) k) ?_
  refine own_go (B := s₁.setTop (mkF m 1 #[.val (.ref a1)] [(.ref a1)])) (fun _ k => XS.aloadN X0.here hx rfl (hb hby d6_0) rfl rfl k) ?_
  obtain ⟨T101, X101, e101, st101⟩ := initO X0 hx hZ hown (hw _ (List.mem_of_getElem? (i := 32) rfl)) (hw _ (List.mem_of_getElem? (i := 33) rfl)) (hw _ (List.mem_of_getElem? (i := 34) rfl)) e0 (g := (mkF m 1 #[.val (.ref a1)] [(.ref a1)])) rfl (by rw [hml]; rfl) rfl (hb hby d6_1) (by decide) (W := 0) (by show 2 * 0 + _ ≤ _; exact Nat.le_of_eq rfl) (by decide)
  refine own_go (B := T101.setTop (mkF m 4 #[.val (.ref a1)] [])) (st101) ?_
  obtain ⟨fs, hr, hrun, hended, hW, hsame⟩ := X101.leave (v := none) (fun _ => rfl)
  refine ⟨_, _, X101.returnOut hx Bd.returns (hb hby d6_4) hr, hrun, hended, _, _, rfl, ?_, ⟨_, rfl⟩, hW, hsame.mono (by decide) (by decide)⟩
  show Q_rm6 Z wO wC wI cB a1 h0 n0 _ T101.heap _
  rw [e101]
  exact ⟨rfl, N0, rfl⟩
theorem d9_0 : decode jdk_30_method_1_code 0 = .ok (.aload_n 0, 1) := by decide +kernel
theorem d9_1 : decode jdk_30_method_1_code 1 = .ok (.invokespecial 1, 3) := by decide +kernel
theorem d9_4 : decode jdk_30_method_1_code 4 = .ok (.return_, 1) := by decide +kernel
theorem pn_9 : plainName "java/lang/Record" = true := by first | (simp [plainName, overriddenIn]; done) | decide +kernel
theorem ef_rm9 (m : MethodId) (a1 : Addr) : entryFrame m #[(.ref a1)] 1 = mkF m 0 #[.val (.ref a1)] [] := by first | (simp [entryFrame, mkF, argsToLocals, Value.category]; done) | rfl
def Q_rm9 (Z : State) (wO : Addr) (wC : Addr) (wI : Addr) (cB : Cell) (a1 : Addr) (h0 : Heap) (n0 : Nat) (v : Option Value) (h : Heap) (L : List Loc) : Prop := v = none ∧ Fr n0 L ∧ h = h0
set_option maxRecDepth 65536 in
set_option maxHeartbeats 40000000 in
theorem rm9 (l : Launch) (Z : State) (a0 : Array Value) (hw : ∀ d ∈ tables_1, d.before a0 Z = true) (ws : List Jvm.Cond) (wO : Addr) (wC : Addr) (wI : Addr) (cB : Cell) (G : own_G Z wO wC wI cB) (a1 : Addr) (h0 : Heap) (n0 : Nat) (Z0 : n0 ≤ h0.size) (O0 : Old Z n0 h0) :
    MetFree l (⟨"java/lang/Record", "<init>", "()V"⟩ : MethodName) (head1 (Jvm.Cond.code (⟨"java/lang/Record", "<init>", "()V"⟩ : MethodName) jdk_30_method_1_code 1 none :: ws) ({ frames := 1, cells := 0, slots := 0, locals := 12 } : Room)) (fun a U => a = #[(.ref a1)] ∧ Z.Warmed39 U.vm ∧ U.heap = h0) (fun _ _ _ _ _ => True) (fun _ U o U' => ∃ v L, o = .returned v ∧ Q_rm9 Z wO wC wI cB a1 h0 n0 v U'.heap L ∧ FrameEnd U o U' L ({ frames := 1, cells := 0, slots := 0, locals := 12 } : Room).cells ({ frames := 1, cells := 0, slots := 0, locals := 12 } : Room).slots) := by
  refine MetFree.of_bodySF (plainFor_of_name pn_9) hisR ?_
  intro p e s m args below meth c s₁ Bd hml0 hP hK
  obtain ⟨rfl, hZ, hh⟩ := hP
  have hx := Bd.exec
  have hby := Bd.bytes
  have hml : c.maxLocals = 1 := hml0
  have hown : s.vm.findClass "java/lang/Record" = some m.cls := findClass_of_methodNamed Bd.named
  have hnm := (name_of_methodNamed Bd.named Bd.method).1
  have X0 : Stand p l e ({ frames := 1, cells := 0, slots := 0, locals := 12 } : Room) s m #[(.ref a1)] below meth c s₁ [] 0 0 := Stand.of_body Bd
  have e0 : s₁.heap = h0 := by rw [← hh, Bd.state]; rfl
  have N0 := Fr.nil n0
  have K0 := Keep.refl h0 ([] : List Addr)
  have G_ := G
  obtain ⟨S_Status_OPEN, E_wO, S_Status_CLOSED, E_wC, S_Integer_IntegerCache_cache, E_wI, S_Integer_IntegerCache_high, BX, G_end⟩ := G_
  change own_Go p e below _ _
  refine own_go (B := s₁.setTop (mkF m 0 #[.val (.ref a1)] [])) (fun _ k => castTop (ef_rm9 m a1) k) ?_
  refine own_go (B := s₁.setTop (mkF m 1 #[.val (.ref a1)] [(.ref a1)])) (fun _ k => XS.aloadN X0.here hx rfl (hb hby d9_0) rfl rfl k) ?_
  obtain ⟨T101, X101, e101, st101⟩ := initO X0 hx hZ hown (hw _ (List.mem_of_getElem? (i := 45) rfl)) (hw _ (List.mem_of_getElem? (i := 33) rfl)) (hw _ (List.mem_of_getElem? (i := 34) rfl)) e0 (g := (mkF m 1 #[.val (.ref a1)] [(.ref a1)])) rfl (by rw [hml]; rfl) rfl (hb hby d9_1) (by decide) (W := 0) (by show 2 * 0 + _ ≤ _; exact Nat.le_of_eq rfl) (by decide)
  refine own_go (B := T101.setTop (mkF m 4 #[.val (.ref a1)] [])) (st101) ?_
  obtain ⟨fs, hr, hrun, hended, hW, hsame⟩ := X101.leave (v := none) (fun _ => rfl)
  refine ⟨_, _, X101.returnOut hx Bd.returns (hb hby d9_4) hr, hrun, hended, _, _, rfl, ?_, ⟨_, rfl⟩, hW, hsame.mono (by decide) (by decide)⟩
  show Q_rm9 Z wO wC wI cB a1 h0 n0 _ T101.heap _
  rw [e101]
  exact ⟨rfl, N0, rfl⟩
theorem pd_0 : parseMethodDescriptor "()V" = some ⟨[], none⟩ := by decide +kernel
theorem d5_0 : decode jdk_33_method_23_code 0 = .ok (.aload_n 0, 1) := by decide +kernel
theorem d5_1 : decode jdk_33_method_23_code 1 = .ok (.invokespecial 202, 3) := by decide +kernel
theorem d5_4 : decode jdk_33_method_23_code 4 = .ok (.aload_n 0, 1) := by decide +kernel
theorem d5_5 : decode jdk_33_method_23_code 5 = .ok (.iload_n 1, 1) := by decide +kernel
theorem d5_6 : decode jdk_33_method_23_code 6 = .ok (.putfield 205, 3) := by decide +kernel
theorem d5_9 : decode jdk_33_method_23_code 9 = .ok (.return_, 1) := by decide +kernel
theorem pn_5 : plainName "java/lang/Integer" = true := by first | (simp [plainName, overriddenIn]; done) | decide +kernel
theorem ef_rm5 (m : MethodId) (a1 : Addr) (p2 : Int32) : entryFrame m #[(.ref a1), (.int p2)] 2 = mkF m 0 #[.val (.ref a1), .val (.int p2)] [] := by first | (simp [entryFrame, mkF, argsToLocals, Value.category]; done) | rfl
def Q_rm5 (Z : State) (wO : Addr) (wC : Addr) (wI : Addr) (cB : Cell) (a1 : Addr) (p2 : Int32) (h0 : Heap) (n0 : Nat) (v : Option Value) (h : Heap) (L : List Loc) : Prop := v = none ∧ Fr n0 L ∧ Keep h0 h [a1] ∧ Fld Z h a1 "java/lang/Integer" "value" "I" (.int p2)
set_option maxRecDepth 65536 in
set_option maxHeartbeats 40000000 in
theorem rm5 (l : Launch) (Z : State) (a0 : Array Value) (hw : ∀ d ∈ tables_1, d.before a0 Z = true) (ws : List Jvm.Cond) (wO : Addr) (wC : Addr) (wI : Addr) (cB : Cell) (G : own_G Z wO wC wI cB) (a1 : Addr) (p2 : Int32) (h0 : Heap) (n0 : Nat) (Z0 : n0 ≤ h0.size) (O0 : Old Z n0 h0) (E1 : Exa Z h0 a1 "java/lang/Integer") (F1 : Fld Z h0 a1 "java/lang/Integer" "value" "I" (.int (0 : Int32))) (g1 : n0 ≤ a1) :
    MetFree l (⟨"java/lang/Integer", "<init>", "(I)V"⟩ : MethodName) (head1 (Jvm.Cond.code (⟨"java/lang/Integer", "<init>", "(I)V"⟩ : MethodName) jdk_33_method_23_code 2 none :: ws) ({ frames := 2, cells := 0, slots := 0, locals := 24 } : Room)) (fun a U => a = #[(.ref a1), (.int p2)] ∧ Z.Warmed39 U.vm ∧ U.heap = h0) (fun _ _ _ _ _ => True) (fun _ U o U' => ∃ v L, o = .returned v ∧ Q_rm5 Z wO wC wI cB a1 p2 h0 n0 v U'.heap L ∧ FrameEnd U o U' L ({ frames := 2, cells := 0, slots := 0, locals := 24 } : Room).cells ({ frames := 2, cells := 0, slots := 0, locals := 24 } : Room).slots) := by
  refine MetFree.of_bodySF (plainFor_of_name pn_5) hisR ?_
  intro p e s m args below meth c s₁ Bd hml0 hP hK
  obtain ⟨rfl, hZ, hh⟩ := hP
  have hx := Bd.exec
  have hby := Bd.bytes
  have hml : c.maxLocals = 2 := hml0
  have hown : s.vm.findClass "java/lang/Integer" = some m.cls := findClass_of_methodNamed Bd.named
  have hnm := (name_of_methodNamed Bd.named Bd.method).1
  have X0 : Stand p l e ({ frames := 2, cells := 0, slots := 0, locals := 24 } : Room) s m #[(.ref a1), (.int p2)] below meth c s₁ [] 0 0 := Stand.of_body Bd
  have e0 : s₁.heap = h0 := by rw [← hh, Bd.state]; rfl
  have N0 := Fr.nil n0
  have K0 := Keep.refl h0 ([a1] : List Addr)
  have G_ := G
  obtain ⟨S_Status_OPEN, E_wO, S_Status_CLOSED, E_wC, S_Integer_IntegerCache_cache, E_wI, S_Integer_IntegerCache_high, BX, G_end⟩ := G_
  change own_Go p e below _ _
  refine own_go (B := s₁.setTop (mkF m 0 #[.val (.ref a1), .val (.int p2)] [])) (fun _ k => castTop (ef_rm5 m a1 p2) k) ?_
  refine own_go (B := s₁.setTop (mkF m 1 #[.val (.ref a1), .val (.int p2)] [(.ref a1)])) (fun _ k => XS.aloadN X0.here hx rfl (hb hby d5_0) rfl rfl k) ?_
  obtain ⟨_, _, ⟨T101, L101, k101, n101⟩, -, X101, ⟨Lc101, hQ101, l101, y101, z101⟩, st101⟩ := X0.specialBack hx (y := (⟨"java/lang/Number", "<init>", "()V"⟩ : MethodName)) rfl hown (mvT hZ (hw _ (List.mem_of_getElem? (i := 26) rfl))) (mvT hZ (hw _ (List.mem_of_getElem? (i := 27) rfl))) (mvT hZ (hw _ (List.mem_of_getElem? (i := 31) rfl))) (by decide) (backOf (W := 0) (rm6 l Z a0 hw [] wO wC wI cB G a1 h0 n0 (Nat.le_trans Z0 K0.1) O0 ) hZ (hw _ (List.mem_of_getElem? (i := 31) rfl)) (hw _ (List.mem_of_getElem? (i := 30) rfl)) (by decide) (by decide)) (g := (mkF m 1 #[.val (.ref a1), .val (.int p2)] [(.ref a1)])) rfl (by rw [hml]; rfl) (Steps.refl _) (a := a1) (argsL := []) (rest := []) (lenOf pd_0 rfl) rfl (by show 2 * 0 + _ ≤ _; exact Nat.le_of_eq rfl) (hb hby d5_1) (fun _ _ => ⟨rfl, e0, (by decide : 0 + 0 ≤ 0), (by decide : 0 + 0 ≤ 0)⟩)
  dsimp only [Pt.U, Pt.locs, Pt.cells, Pt.slots] at X101 l101 y101 z101 st101 hQ101
  rw [l101, y101, z101] at X101
  obtain ⟨rfl, N101q, K101⟩ := hQ101
  have N101 := Fr.app N0 N101q
  have e101 : T101.heap = h0 := K101
  refine own_go (B := T101.setTop (mkF m 4 #[.val (.ref a1), .val (.int p2)] [])) (fun _ k => st101.trans k) ?_
  refine own_go (B := T101.setTop (mkF m 5 #[.val (.ref a1), .val (.int p2)] [(.ref a1)])) (fun _ k => XS.aloadN X101.here hx rfl (hb hby d5_4) rfl rfl k) ?_
  refine own_go (B := T101.setTop (mkF m 6 #[.val (.ref a1), .val (.int p2)] [(.int p2), (.ref a1)])) (fun _ k => XS.iloadN X101.here hx rfl (hb hby d5_5) rfl k) ?_
  obtain ⟨T102, h102, X102, e102, W102, st102⟩ := putF X101 hx hZ hown (host := "") (Or.inl (hw _ (List.mem_of_getElem? (i := 35) rfl))) Via.refl e101 F1 E1 (Or.inr ⟨(hw _ (List.mem_of_getElem? (i := 36) rfl)), rfl, hnm⟩) (hw _ (List.mem_of_getElem? (i := 21) rfl)) (ty := .int) (by decide) rfl rfl (g := (mkF m 6 #[.val (.ref a1), .val (.int p2)] [(.int p2), (.ref a1)])) rfl rfl (hb hby d5_6)
  have Fw102 := F1.same W102
  have O102 := O0.wr W102 g1
  have N102 := Fr.snoc X102 N101 g1
  have K102' : Keep h0 h102 ([a1] : List Addr) := K0.wr W102 (Or.inl (List.mem_of_getElem? (i := 0) rfl))
  refine own_go (B := T102.setTop (mkF m 9 #[.val (.ref a1), .val (.int p2)] [])) (st102) ?_
  obtain ⟨fs, hr, hrun, hended, hW, hsame⟩ := X102.leave (v := none) (fun _ => rfl)
  refine ⟨_, _, X102.returnOut hx Bd.returns (hb hby d5_9) hr, hrun, hended, _, _, rfl, ?_, ⟨_, rfl⟩, hW, hsame.mono (by decide) (by decide)⟩
  show Q_rm5 Z wO wC wI cB a1 p2 h0 n0 _ T102.heap _
  rw [e102]
  exact ⟨rfl, N102, K102', Fw102⟩
theorem pd_1 : parseMethodDescriptor "(I)V" = some ⟨[.int], none⟩ := by decide +kernel
theorem d2_0 : decode jdk_33_method_22_code 0 = .ok (.iload_n 0, 1) := by decide +kernel
theorem d2_1 : decode jdk_33_method_22_code 1 = .ok (.bipush (-128), 2) := by decide +kernel
theorem d2_3 : decode jdk_33_method_22_code 3 = .ok (.if_icmp .lt 20, 3) := by decide +kernel
theorem d2_6 : decode jdk_33_method_22_code 6 = .ok (.iload_n 0, 1) := by decide +kernel
theorem d2_7 : decode jdk_33_method_22_code 7 = .ok (.getstatic 191, 3) := by decide +kernel
theorem d2_10 : decode jdk_33_method_22_code 10 = .ok (.if_icmp .gt 13, 3) := by decide +kernel
theorem d2_13 : decode jdk_33_method_22_code 13 = .ok (.getstatic 195, 3) := by decide +kernel
theorem d2_16 : decode jdk_33_method_22_code 16 = .ok (.iload_n 0, 1) := by decide +kernel
theorem d2_17 : decode jdk_33_method_22_code 17 = .ok (.sipush 128, 3) := by decide +kernel
theorem d2_20 : decode jdk_33_method_22_code 20 = .ok (.iadd, 1) := by decide +kernel
theorem d2_21 : decode jdk_33_method_22_code 21 = .ok (.aaload, 1) := by decide +kernel
theorem d2_22 : decode jdk_33_method_22_code 22 = .ok (.areturn, 1) := by decide +kernel
theorem d2_23 : decode jdk_33_method_22_code 23 = .ok (.new 1, 3) := by decide +kernel
theorem d2_26 : decode jdk_33_method_22_code 26 = .ok (.dup, 1) := by decide +kernel
theorem d2_27 : decode jdk_33_method_22_code 27 = .ok (.iload_n 0, 1) := by decide +kernel
theorem d2_28 : decode jdk_33_method_22_code 28 = .ok (.invokespecial 199, 3) := by decide +kernel
theorem d2_31 : decode jdk_33_method_22_code 31 = .ok (.areturn, 1) := by decide +kernel
theorem ef_rm2 (m : MethodId) (p1 : Int32) : entryFrame m #[(.int p1)] 1 = mkF m 0 #[.val (.int p1)] [] := by first | (simp [entryFrame, mkF, argsToLocals, Value.category]; done) | rfl
def Q_rm2 (Z : State) (wO : Addr) (wC : Addr) (wI : Addr) (cB : Cell) (p1 : Int32) (h0 : Heap) (n0 : Nat) (v : Option Value) (h : Heap) (L : List Loc) : Prop := ∃ (r : Addr), v = some (.ref r) ∧ Fr n0 L ∧ Keep h0 h [] ∧ Exa Z h r "java/lang/Integer" ∧ Fld Z h r "java/lang/Integer" "value" "I" (.int p1)
set_option maxRecDepth 65536 in
set_option maxHeartbeats 40000000 in
theorem rm2 (l : Launch) (Z : State) (a0 : Array Value) (hw : ∀ d ∈ tables_1, d.before a0 Z = true) (ws : List Jvm.Cond) (wO : Addr) (wC : Addr) (wI : Addr) (cB : Cell) (G : own_G Z wO wC wI cB) (p1 : Int32) (h0 : Heap) (n0 : Nat) (Z0 : n0 ≤ h0.size) (O0 : Old Z n0 h0) :
    MetFree l (⟨"java/lang/Integer", "valueOf", "(I)Ljava/lang/Integer;"⟩ : MethodName) (head1 (Jvm.Cond.code (⟨"java/lang/Integer", "valueOf", "(I)Ljava/lang/Integer;"⟩ : MethodName) jdk_33_method_22_code 1 (some (.object "java/lang/Integer")) :: ws) ({ frames := 3, cells := 1, slots := 1, locals := 38 } : Room)) (fun a U => a = #[(.int p1)] ∧ Z.Warmed39 U.vm ∧ U.heap = h0) (fun _ _ _ _ _ => True) (fun _ U o U' => ∃ v L, o = .returned v ∧ Q_rm2 Z wO wC wI cB p1 h0 n0 v U'.heap L ∧ FrameEnd U o U' L ({ frames := 3, cells := 1, slots := 1, locals := 38 } : Room).cells ({ frames := 3, cells := 1, slots := 1, locals := 38 } : Room).slots) := by
  refine MetFree.of_bodySF (plainFor_of_name pn_5) hisR ?_
  intro p e s m args below meth c s₁ Bd hml0 hP hK
  obtain ⟨rfl, hZ, hh⟩ := hP
  have hx := Bd.exec
  have hby := Bd.bytes
  have hml : c.maxLocals = 1 := hml0
  have hown : s.vm.findClass "java/lang/Integer" = some m.cls := findClass_of_methodNamed Bd.named
  have hnm := (name_of_methodNamed Bd.named Bd.method).1
  have X0 : Stand p l e ({ frames := 3, cells := 1, slots := 1, locals := 38 } : Room) s m #[(.int p1)] below meth c s₁ [] 0 0 := Stand.of_body Bd
  have e0 : s₁.heap = h0 := by rw [← hh, Bd.state]; rfl
  have N0 := Fr.nil n0
  have K0 := Keep.refl h0 ([] : List Addr)
  have G_ := G
  obtain ⟨S_Status_OPEN, E_wO, S_Status_CLOSED, E_wC, S_Integer_IntegerCache_cache, E_wI, S_Integer_IntegerCache_high, BX, G_end⟩ := G_
  change own_Go p e below _ _
  refine own_go (B := s₁.setTop (mkF m 0 #[.val (.int p1)] [])) (fun _ k => castTop (ef_rm2 m p1) k) ?_
  refine own_go (B := s₁.setTop (mkF m 1 #[.val (.int p1)] [(.int p1)])) (fun _ k => XS.iloadN X0.here hx rfl (hb hby d2_0) rfl k) ?_
  refine own_go (B := s₁.setTop (mkF m 3 #[.val (.int p1)] [(.int (-128 : Int32)), (.int p1)])) (fun _ k => XS.bipush X0.here hx rfl (hb hby d2_1) k) ?_
  by_cases hc3 : p1 < (-128 : Int32)
  · refine own_go (B := s₁.setTop (mkF m 23 #[.val (.int p1)] [])) (fun _ k => XS.icmpYes X0.here hx rfl (pc0 := 3) (pc' := 23) rfl (hb hby d2_3) rfl (tlt hc3).1 (by decide) (by decide) k) ?_
    obtain ⟨T101, h101, X101, e101, E101, A101, D101, -, st101⟩ := newO X0 hx hZ hown (hw _ (List.mem_of_getElem? (i := 20) rfl)) (hw _ (List.mem_of_getElem? (i := 21) rfl)) (hw _ (List.mem_of_getElem? (i := 9) rfl)) e0 (g := (mkF m 23 #[.val (.int p1)] [])) rfl (hb hby d2_23) (by decide) (by decide)
    obtain ⟨b101, g101⟩ : ∃ z, z = h0.size := ⟨_, rfl⟩
    rw [← g101] at A101 D101 st101
    have g_b101 : n0 ≤ b101 := Nat.le_trans (Nat.le_trans Z0 K0.1) (Nat.le_of_eq g101.symm)
    have sz_b101 : h0.size ≤ b101 := Nat.le_trans K0.1 (Nat.le_of_eq g101.symm)
    have O101 := O0.ext E101
    have K101' : Keep h0 h101 ([] : List Addr) := K0.ext E101
    have F_value_b101 : Fld Z h101 b101 "java/lang/Integer" "value" "I" (.int (0 : Int32)) := D101 (Or.inr (hw _ (List.mem_of_getElem? (i := 36) rfl))) (ty := .int) (by decide)
    refine own_go (B := T101.setTop (mkF m 26 #[.val (.int p1)] [(.ref b101)])) (st101) ?_
    refine own_go (B := T101.setTop (mkF m 27 #[.val (.int p1)] [(.ref b101), (.ref b101)])) (fun _ k => XS.dup X101.here hx rfl (hb hby d2_26) rfl rfl k) ?_
    refine own_go (B := T101.setTop (mkF m 28 #[.val (.int p1)] [(.int p1), (.ref b101), (.ref b101)])) (fun _ k => XS.iloadN X101.here hx rfl (hb hby d2_27) rfl k) ?_
    obtain ⟨_, _, ⟨T102, L102, k102, n102⟩, -, X102, ⟨Lc102, hQ102, l102, y102, z102⟩, st102⟩ := X101.specialBack hx (y := (⟨"java/lang/Integer", "<init>", "(I)V"⟩ : MethodName)) rfl hown (mvT hZ (hw _ (List.mem_of_getElem? (i := 22) rfl))) (mvT hZ (hw _ (List.mem_of_getElem? (i := 23) rfl))) (mvT hZ (hw _ (List.mem_of_getElem? (i := 25) rfl))) (by decide) (backOf (W := 1) (rm5 l Z a0 hw [] wO wC wI cB G b101 p1 h101 n0 (Nat.le_trans Z0 K101'.1) O101 A101 F_value_b101 g_b101) hZ (hw _ (List.mem_of_getElem? (i := 25) rfl)) (hw _ (List.mem_of_getElem? (i := 9) rfl)) (by decide) (by decide)) (g := (mkF m 28 #[.val (.int p1)] [(.int p1), (.ref b101), (.ref b101)])) rfl (by rw [hml]; rfl) (Steps.refl _) (a := b101) (argsL := [(.int p1)]) (rest := [(.ref b101)]) (lenOf pd_1 rfl) rfl (by show 2 * 0 + _ ≤ _; exact Nat.le_of_eq rfl) (hb hby d2_28) (fun _ _ => ⟨rfl, e101, (by decide : 1 + 0 ≤ 1), (by decide : 1 + 0 ≤ 1)⟩)
    dsimp only [Pt.U, Pt.locs, Pt.cells, Pt.slots] at X102 l102 y102 z102 st102 hQ102
    rw [l102, y102, z102] at X102
    obtain ⟨rfl, N102q, K102, F_102⟩ := hQ102
    have N102 := Fr.app N0 N102q
    have O102 := O101.keep K102 (allS g_b101 all0)
    have K102' : Keep h0 T102.heap ([] : List Addr) := K101'.trans K102 (allS (Or.inr sz_b101) all0)
    refine own_go (B := T102.setTop (mkF m 31 #[.val (.int p1)] [(.ref b101)])) (fun _ k => st102.trans k) ?_
    obtain ⟨fs, hr, hrun, hended, hW, hsame⟩ := X102.leave (v := some (.ref b101)) (fun h => by rw [Bd.returns] at h; cases h)
    refine ⟨_, _, retOut X102 hx Bd.returns rfl (Or.inr (Or.inr (Or.inr (Or.inr ⟨rfl, rfl, rfl⟩)))) (hb hby d2_31) hr, hrun, hended, _, _, rfl, ?_, ⟨_, rfl⟩, hW, hsame.mono (by decide) (by decide)⟩
    show Q_rm2 Z wO wC wI cB p1 h0 n0 _ T102.heap _
    exact ⟨b101, rfl, N102, K102', (A101.keep K102), F_102⟩
  · refine own_go (B := s₁.setTop (mkF m 6 #[.val (.int p1)] [])) (fun _ k => XS.icmpNo X0.here hx rfl (hb hby d2_3) rfl (flt hc3).1 k) ?_
    refine own_go (B := s₁.setTop (mkF m 7 #[.val (.int p1)] [(.int p1)])) (fun _ k => XS.iloadN X0.here hx rfl (hb hby d2_6) rfl k) ?_
    obtain ⟨T103, X103, e103, st103⟩ := getS2 X0 hx hZ hown (host := "") (Or.inl (hw _ (List.mem_of_getElem? (i := 11) rfl))) Via.refl e0 (S_Integer_IntegerCache_high.ext O0.2) (g := (mkF m 7 #[.val (.int p1)] [(.int p1)])) rfl (hb hby d2_7)
    refine own_go (B := T103.setTop (mkF m 10 #[.val (.int p1)] [(.int (127 : Int32)), (.int p1)])) (st103) ?_
    by_cases hc10 : (127 : Int32) < p1
    · refine own_go (B := T103.setTop (mkF m 23 #[.val (.int p1)] [])) (fun _ k => XS.icmpYes X103.here hx rfl (pc0 := 10) (pc' := 23) rfl (hb hby d2_10) rfl (tlt hc10).2.2.1 (by decide) (by decide) k) ?_
      obtain ⟨T104, h104, X104, e104, E104, A104, D104, -, st104⟩ := newO X103 hx hZ hown (hw _ (List.mem_of_getElem? (i := 20) rfl)) (hw _ (List.mem_of_getElem? (i := 21) rfl)) (hw _ (List.mem_of_getElem? (i := 9) rfl)) e103 (g := (mkF m 23 #[.val (.int p1)] [])) rfl (hb hby d2_23) (by decide) (by decide)
      obtain ⟨b104, g104⟩ : ∃ z, z = h0.size := ⟨_, rfl⟩
      rw [← g104] at A104 D104 st104
      have g_b104 : n0 ≤ b104 := Nat.le_trans (Nat.le_trans Z0 K0.1) (Nat.le_of_eq g104.symm)
      have sz_b104 : h0.size ≤ b104 := Nat.le_trans K0.1 (Nat.le_of_eq g104.symm)
      have O104 := O0.ext E104
      have K104' : Keep h0 h104 ([] : List Addr) := K0.ext E104
      have F_value_b104 : Fld Z h104 b104 "java/lang/Integer" "value" "I" (.int (0 : Int32)) := D104 (Or.inr (hw _ (List.mem_of_getElem? (i := 36) rfl))) (ty := .int) (by decide)
      refine own_go (B := T104.setTop (mkF m 26 #[.val (.int p1)] [(.ref b104)])) (st104) ?_
      refine own_go (B := T104.setTop (mkF m 27 #[.val (.int p1)] [(.ref b104), (.ref b104)])) (fun _ k => XS.dup X104.here hx rfl (hb hby d2_26) rfl rfl k) ?_
      refine own_go (B := T104.setTop (mkF m 28 #[.val (.int p1)] [(.int p1), (.ref b104), (.ref b104)])) (fun _ k => XS.iloadN X104.here hx rfl (hb hby d2_27) rfl k) ?_
      obtain ⟨_, _, ⟨T105, L105, k105, n105⟩, -, X105, ⟨Lc105, hQ105, l105, y105, z105⟩, st105⟩ := X104.specialBack hx (y := (⟨"java/lang/Integer", "<init>", "(I)V"⟩ : MethodName)) rfl hown (mvT hZ (hw _ (List.mem_of_getElem? (i := 22) rfl))) (mvT hZ (hw _ (List.mem_of_getElem? (i := 23) rfl))) (mvT hZ (hw _ (List.mem_of_getElem? (i := 25) rfl))) (by decide) (backOf (W := 1) (rm5 l Z a0 hw [] wO wC wI cB G b104 p1 h104 n0 (Nat.le_trans Z0 K104'.1) O104 A104 F_value_b104 g_b104) hZ (hw _ (List.mem_of_getElem? (i := 25) rfl)) (hw _ (List.mem_of_getElem? (i := 9) rfl)) (by decide) (by decide)) (g := (mkF m 28 #[.val (.int p1)] [(.int p1), (.ref b104), (.ref b104)])) rfl (by rw [hml]; rfl) (Steps.refl _) (a := b104) (argsL := [(.int p1)]) (rest := [(.ref b104)]) (lenOf pd_1 rfl) rfl (by show 2 * 0 + _ ≤ _; exact Nat.le_of_eq rfl) (hb hby d2_28) (fun _ _ => ⟨rfl, e104, (by decide : 1 + 0 ≤ 1), (by decide : 1 + 0 ≤ 1)⟩)
      dsimp only [Pt.U, Pt.locs, Pt.cells, Pt.slots] at X105 l105 y105 z105 st105 hQ105
      rw [l105, y105, z105] at X105
      obtain ⟨rfl, N105q, K105, F_105⟩ := hQ105
      have N105 := Fr.app N0 N105q
      have O105 := O104.keep K105 (allS g_b104 all0)
      have K105' : Keep h0 T105.heap ([] : List Addr) := K104'.trans K105 (allS (Or.inr sz_b104) all0)
      refine own_go (B := T105.setTop (mkF m 31 #[.val (.int p1)] [(.ref b104)])) (fun _ k => st105.trans k) ?_
      obtain ⟨fs, hr, hrun, hended, hW, hsame⟩ := X105.leave (v := some (.ref b104)) (fun h => by rw [Bd.returns] at h; cases h)
      refine ⟨_, _, retOut X105 hx Bd.returns rfl (Or.inr (Or.inr (Or.inr (Or.inr ⟨rfl, rfl, rfl⟩)))) (hb hby d2_31) hr, hrun, hended, _, _, rfl, ?_, ⟨_, rfl⟩, hW, hsame.mono (by decide) (by decide)⟩
      show Q_rm2 Z wO wC wI cB p1 h0 n0 _ T105.heap _
      exact ⟨b104, rfl, N105, K105', (A104.keep K105), F_105⟩
    · refine own_go (B := T103.setTop (mkF m 13 #[.val (.int p1)] [])) (fun _ k => XS.icmpNo X103.here hx rfl (hb hby d2_10) rfl (flt hc10).2.2.1 k) ?_
      obtain ⟨T106, X106, e106, st106⟩ := getS2 X103 hx hZ hown (host := "") (Or.inl (hw _ (List.mem_of_getElem? (i := 13) rfl))) Via.refl e103 (S_Integer_IntegerCache_cache.ext O0.2) (g := (mkF m 13 #[.val (.int p1)] [])) rfl (hb hby d2_13)
      refine own_go (B := T106.setTop (mkF m 16 #[.val (.int p1)] [(.ref wI)])) (st106) ?_
      refine own_go (B := T106.setTop (mkF m 17 #[.val (.int p1)] [(.int p1), (.ref wI)])) (fun _ k => XS.iloadN X106.here hx rfl (hb hby d2_16) rfl k) ?_
      refine own_go (B := T106.setTop (mkF m 20 #[.val (.int p1)] [(.int (128 : Int32)), (.int p1), (.ref wI)])) (fun _ k => XS.sipush X106.here hx rfl (hb hby d2_17) k) ?_
      refine own_go (B := T106.setTop (mkF m 21 #[.val (.int p1)] [(.int (p1 + (128 : Int32))), (.ref wI)])) (fun _ k => XS.iadd X106.here hx rfl (hb hby d2_20) rfl k) ?_
      have pl := own_place p1 hc3 hc10
      have Bx := BX.ext O0.2
      have hin : ¬ ((p1 + (128 : Int32)) < 0 ∨ cB.slots.size ≤ ((p1 + (128 : Int32))).toNatClampNeg) := inb_of Bx.2.1 pl
      obtain ⟨r, hat, EB, FB⟩ := BX.2.2.2 _ hin
      replace FB : Fld Z Z.heap r "java/lang/Integer" "value" "I" (.int p1) := by rw [← own_back p1]; exact FB
      refine own_go (B := T106.setTop (mkF m 22 #[.val (.int p1)] [(.ref r)])) (X106.aaload hx (j := (p1 + (128 : Int32))) (v := .ref r) (by rw [e106]; exact Bx.1.1) (State.isArrayOf_alike hZ.alike Bx.1.2.1) rfl Bx.1.2.2 hin hat (g := (mkF m 21 #[.val (.int p1)] [(.int (p1 + (128 : Int32))), (.ref wI)])) rfl rfl (hb hby d2_21)) ?_
      obtain ⟨fs, hr, hrun, hended, hW, hsame⟩ := X106.leave (v := some (.ref r)) (fun h => by rw [Bd.returns] at h; cases h)
      refine ⟨_, _, retOut X106 hx Bd.returns rfl (Or.inr (Or.inr (Or.inr (Or.inr ⟨rfl, rfl, rfl⟩)))) (hb hby d2_22) hr, hrun, hended, _, _, rfl, ?_, ⟨_, rfl⟩, hW, hsame.mono (by decide) (by decide)⟩
      show Q_rm2 Z wO wC wI cB p1 h0 n0 _ T106.heap _
      rw [e106]
      exact ⟨r, rfl, N0, K0, (EB.ext O0.2), (FB.ext O0.2)⟩
theorem pd_2 : parseMethodDescriptor "(I)Ljava/lang/Integer;" = some ⟨[.int], some (.object "java/lang/Integer")⟩ := by decide +kernel
theorem d1_0 : decode method_3_code 0 = .ok (.iload_n 1, 1) := by decide +kernel
theorem d1_1 : decode method_3_code 1 = .ok (.iload_n 2, 1) := by decide +kernel
theorem d1_2 : decode method_3_code 2 = .ok (.iushr, 1) := by decide +kernel
theorem d1_3 : decode method_3_code 3 = .ok (.iconst 1, 1) := by decide +kernel
theorem d1_4 : decode method_3_code 4 = .ok (.iand, 1) := by decide +kernel
theorem d1_5 : decode method_3_code 5 = .ok (.ifCond .eq 7, 3) := by decide +kernel
theorem d1_8 : decode method_3_code 8 = .ok (.aconst_null, 1) := by decide +kernel
theorem d1_9 : decode method_3_code 9 = .ok (.goto 7, 3) := by decide +kernel
theorem d1_12 : decode method_3_code 12 = .ok (.iload_n 0, 1) := by decide +kernel
theorem d1_13 : decode method_3_code 13 = .ok (.invokestatic 54, 3) := by decide +kernel
theorem d1_16 : decode method_3_code 16 = .ok (.areturn, 1) := by decide +kernel
theorem pn_1 : plainName "com/example/roomwire/roomwire/core/NightStateOverlayPinLaw" = true := by first | (simp [plainName, overriddenIn]; done) | decide +kernel
theorem ef_rm1 (m : MethodId) (p0 : Int32) (p1 : Int32) (p2 : Int32) : entryFrame m #[(.int p0), (.int p1), (.int p2)] 3 = mkF m 0 #[.val (.int p0), .val (.int p1), .val (.int p2)] [] := by first | (simp [entryFrame, mkF, argsToLocals, Value.category]; done) | rfl
def Q_rm1 (Z : State) (wO : Addr) (wC : Addr) (wI : Addr) (cB : Cell) (p0 : Int32) (p1 : Int32) (p2 : Int32) (h0 : Heap) (n0 : Nat) (v : Option Value) (h : Heap) (L : List Loc) : Prop := ∃ (u : Value), v = some u ∧ Fr n0 L ∧ Keep h0 h [] ∧ u.isRef = true ∧ own_ni Z h u (if ((p1.toUInt32 >>> (p2 &&& 31).toUInt32).toInt32 &&& (1 : Int32)) = 0 then some p0 else none)
set_option maxRecDepth 65536 in
set_option maxHeartbeats 40000000 in
theorem rm1 (l : Launch) (Z : State) (a0 : Array Value) (hw : ∀ d ∈ tables_1, d.before a0 Z = true) (ws : List Jvm.Cond) (wO : Addr) (wC : Addr) (wI : Addr) (cB : Cell) (G : own_G Z wO wC wI cB) (p0 : Int32) (p1 : Int32) (p2 : Int32) (h0 : Heap) (n0 : Nat) (Z0 : n0 ≤ h0.size) (O0 : Old Z n0 h0) :
    MetFree l (⟨"com/example/roomwire/roomwire/core/NightStateOverlayPinLaw", "num", "(III)Ljava/lang/Integer;"⟩ : MethodName) (head1 (Jvm.Cond.code (⟨"com/example/roomwire/roomwire/core/NightStateOverlayPinLaw", "num", "(III)Ljava/lang/Integer;"⟩ : MethodName) method_3_code 3 (some (.object "java/lang/Integer")) :: ws) ({ frames := 4, cells := 1, slots := 1, locals := 50 } : Room)) (fun a U => a = #[(.int p0), (.int p1), (.int p2)] ∧ Z.Warmed39 U.vm ∧ U.heap = h0) (fun _ _ _ _ _ => True) (fun _ U o U' => ∃ v L, o = .returned v ∧ Q_rm1 Z wO wC wI cB p0 p1 p2 h0 n0 v U'.heap L ∧ FrameEnd U o U' L ({ frames := 4, cells := 1, slots := 1, locals := 50 } : Room).cells ({ frames := 4, cells := 1, slots := 1, locals := 50 } : Room).slots) := by
  refine MetFree.of_bodySF (plainFor_of_name pn_1) hisR ?_
  intro p e s m args below meth c s₁ Bd hml0 hP hK
  obtain ⟨rfl, hZ, hh⟩ := hP
  have hx := Bd.exec
  have hby := Bd.bytes
  have hml : c.maxLocals = 3 := hml0
  have hown : s.vm.findClass "com/example/roomwire/roomwire/core/NightStateOverlayPinLaw" = some m.cls := findClass_of_methodNamed Bd.named
  have hnm := (name_of_methodNamed Bd.named Bd.method).1
  have X0 : Stand p l e ({ frames := 4, cells := 1, slots := 1, locals := 50 } : Room) s m #[(.int p0), (.int p1), (.int p2)] below meth c s₁ [] 0 0 := Stand.of_body Bd
  have e0 : s₁.heap = h0 := by rw [← hh, Bd.state]; rfl
  have N0 := Fr.nil n0
  have K0 := Keep.refl h0 ([] : List Addr)
  have G_ := G
  obtain ⟨S_Status_OPEN, E_wO, S_Status_CLOSED, E_wC, S_Integer_IntegerCache_cache, E_wI, S_Integer_IntegerCache_high, BX, G_end⟩ := G_
  change own_Go p e below _ _
  refine own_go (B := s₁.setTop (mkF m 0 #[.val (.int p0), .val (.int p1), .val (.int p2)] [])) (fun _ k => castTop (ef_rm1 m p0 p1 p2) k) ?_
  refine own_go (B := s₁.setTop (mkF m 1 #[.val (.int p0), .val (.int p1), .val (.int p2)] [(.int p1)])) (fun _ k => XS.iloadN X0.here hx rfl (hb hby d1_0) rfl k) ?_
  refine own_go (B := s₁.setTop (mkF m 2 #[.val (.int p0), .val (.int p1), .val (.int p2)] [(.int p2), (.int p1)])) (fun _ k => XS.iloadN X0.here hx rfl (hb hby d1_1) rfl k) ?_
  refine own_go (B := s₁.setTop (mkF m 3 #[.val (.int p0), .val (.int p1), .val (.int p2)] [(.int ((p1.toUInt32 >>> (p2 &&& 31).toUInt32).toInt32))])) (fun _ k => XS.iushr X0.here hx rfl (hb hby d1_2) rfl k) ?_
  refine own_go (B := s₁.setTop (mkF m 4 #[.val (.int p0), .val (.int p1), .val (.int p2)] [(.int (1 : Int32)), (.int ((p1.toUInt32 >>> (p2 &&& 31).toUInt32).toInt32))])) (fun _ k => XS.iconst X0.here hx rfl (hb hby d1_3) k) ?_
  refine own_go (B := s₁.setTop (mkF m 5 #[.val (.int p0), .val (.int p1), .val (.int p2)] [(.int (((p1.toUInt32 >>> (p2 &&& 31).toUInt32).toInt32) &&& (1 : Int32)))])) (fun _ k => XS.iand X0.here hx rfl (hb hby d1_4) rfl k) ?_
  by_cases hc5 : (((p1.toUInt32 >>> (p2 &&& 31).toUInt32).toInt32) &&& (1 : Int32)) = (0 : Int32)
  · refine own_go (B := s₁.setTop (mkF m 12 #[.val (.int p0), .val (.int p1), .val (.int p2)] [])) (fun _ k => XS.ifYes X0.here hx rfl (pc0 := 5) (pc' := 12) rfl (hb hby d1_5) rfl ((if0 _ _).trans (teq hc5).1) (by decide) (by decide) k) ?_
    refine own_go (B := s₁.setTop (mkF m 13 #[.val (.int p0), .val (.int p1), .val (.int p2)] [(.int p0)])) (fun _ k => XS.iloadN X0.here hx rfl (hb hby d1_12) rfl k) ?_
    obtain ⟨_, _, ⟨T101, L101, k101, n101⟩, -, X101, ⟨Lc101, hQ101, l101, y101, z101⟩, st101⟩ := Jvm.LawKit.callS X0 hx (y := (⟨"java/lang/Integer", "valueOf", "(I)Ljava/lang/Integer;"⟩ : MethodName)) hown (mvT hZ (hw _ (List.mem_of_getElem? (i := 7) rfl))) (mvT hZ (hw _ (List.mem_of_getElem? (i := 8) rfl))) (mvT hZ (hw _ (List.mem_of_getElem? (i := 9) rfl))) (mvT hZ (hw _ (List.mem_of_getElem? (i := 10) rfl))) (by decide) (backOf (W := 0) (rm2 l Z a0 hw [] wO wC wI cB G p0 h0 n0 (Nat.le_trans Z0 K0.1) O0 ) hZ (hw _ (List.mem_of_getElem? (i := 10) rfl)) (hw _ (List.mem_of_getElem? (i := 9) rfl)) (by decide) (by decide)) (g := (mkF m 13 #[.val (.int p0), .val (.int p1), .val (.int p2)] [(.int p0)])) rfl (by rw [hml]; rfl) (argsL := [(.int p0)]) (rest := []) (lenOf pd_2 rfl) rfl (by show 2 * 0 + _ ≤ _; exact Nat.le_of_eq rfl) (hb hby d1_13) (fun _ _ => ⟨rfl, e0, (by decide : 0 + 1 ≤ 1), (by decide : 0 + 1 ≤ 1)⟩)
    dsimp only [Pt.U, Pt.locs, Pt.cells, Pt.slots] at X101 l101 y101 z101 st101 hQ101
    rw [l101, y101, z101] at X101
    obtain ⟨r_101, rfl, N101q, K101, E_101, F_101⟩ := hQ101
    have N101 := Fr.app N0 N101q
    have O101 := O0.keep K101 all0
    have K101' : Keep h0 T101.heap ([] : List Addr) := K0.trans K101 all0
    refine own_go (B := T101.setTop (mkF m 16 #[.val (.int p0), .val (.int p1), .val (.int p2)] [(.ref r_101)])) (st101) ?_
    obtain ⟨fs, hr, hrun, hended, hW, hsame⟩ := X101.leave (v := some (.ref r_101)) (fun h => by rw [Bd.returns] at h; cases h)
    refine ⟨_, _, retOut X101 hx Bd.returns rfl (Or.inr (Or.inr (Or.inr (Or.inr ⟨rfl, rfl, rfl⟩)))) (hb hby d1_16) hr, hrun, hended, _, _, rfl, ?_, ⟨_, rfl⟩, hW, hsame.mono (by decide) (by decide)⟩
    show Q_rm1 Z wO wC wI cB p0 p1 p2 h0 n0 _ T101.heap _
    exact ⟨(.ref r_101), rfl, N101, K101', rfl, (by rw [if_pos hc5]; exact ⟨_, rfl, E_101, F_101⟩)⟩
  · refine own_go (B := s₁.setTop (mkF m 8 #[.val (.int p0), .val (.int p1), .val (.int p2)] [])) (fun _ k => XS.ifNo X0.here hx rfl (hb hby d1_5) rfl ((if0 _ _).trans (feq hc5).1) k) ?_
    refine own_go (B := s₁.setTop (mkF m 9 #[.val (.int p0), .val (.int p1), .val (.int p2)] [.null])) (fun _ k => XS.aconstNull X0.here hx rfl (hb hby d1_8) k) ?_
    refine own_go (B := s₁.setTop (mkF m 16 #[.val (.int p0), .val (.int p1), .val (.int p2)] [.null])) (fun _ k => XS.goto X0.here hx rfl (pc0 := 9) (pc' := 16) rfl (hb hby d1_9) (by decide) (by decide) k) ?_
    obtain ⟨fs, hr, hrun, hended, hW, hsame⟩ := X0.leave (v := some .null) (fun h => by rw [Bd.returns] at h; cases h)
    refine ⟨_, _, retOut X0 hx Bd.returns rfl (Or.inr (Or.inr (Or.inr (Or.inr ⟨rfl, rfl, rfl⟩)))) (hb hby d1_16) hr, hrun, hended, _, _, rfl, ?_, ⟨_, rfl⟩, hW, hsame.mono (by decide) (by decide)⟩
    show Q_rm1 Z wO wC wI cB p0 p1 p2 h0 n0 _ s₁.heap _
    rw [e0]
    exact ⟨.null, rfl, N0, K0, rfl, (by rw [if_neg hc5]; rfl)⟩
theorem d4_0 : decode method_4_code 0 = .ok (.iload_n 0, 1) := by decide +kernel
theorem d4_1 : decode method_4_code 1 = .ok (.iload_n 1, 1) := by decide +kernel
theorem d4_2 : decode method_4_code 2 = .ok (.iushr, 1) := by decide +kernel
theorem d4_3 : decode method_4_code 3 = .ok (.iconst 3, 1) := by decide +kernel
theorem d4_4 : decode method_4_code 4 = .ok (.iand, 1) := by decide +kernel
theorem d4_5 : decode method_4_code 5 = .ok (.istore_n 2, 1) := by decide +kernel
theorem d4_6 : decode method_4_code 6 = .ok (.iload_n 2, 1) := by decide +kernel
theorem d4_7 : decode method_4_code 7 = .ok (.iconst 3, 1) := by decide +kernel
theorem d4_8 : decode method_4_code 8 = .ok (.if_icmp .ne 7, 3) := by decide +kernel
theorem d4_11 : decode method_4_code 11 = .ok (.iconst 0, 1) := by decide +kernel
theorem d4_12 : decode method_4_code 12 = .ok (.goto 4, 3) := by decide +kernel
theorem d4_15 : decode method_4_code 15 = .ok (.iload_n 2, 1) := by decide +kernel
theorem d4_16 : decode method_4_code 16 = .ok (.ireturn, 1) := by decide +kernel
theorem ef_rm4 (m : MethodId) (p0 : Int32) (p1 : Int32) : entryFrame m #[(.int p0), (.int p1)] 3 = mkF m 0 #[.val (.int p0), .val (.int p1), .unset] [] := by first | (simp [entryFrame, mkF, argsToLocals, Value.category]; done) | rfl
def Q_rm4 (Z : State) (wO : Addr) (wC : Addr) (wI : Addr) (cB : Cell) (p0 : Int32) (p1 : Int32) (h0 : Heap) (n0 : Nat) (v : Option Value) (h : Heap) (L : List Loc) : Prop := v = some (.int (own_code p0 p1)) ∧ Fr n0 L ∧ h = h0
set_option maxRecDepth 65536 in
set_option maxHeartbeats 40000000 in
theorem rm4 (l : Launch) (Z : State) (a0 : Array Value) (hw : ∀ d ∈ tables_1, d.before a0 Z = true) (ws : List Jvm.Cond) (wO : Addr) (wC : Addr) (wI : Addr) (cB : Cell) (G : own_G Z wO wC wI cB) (p0 : Int32) (p1 : Int32) (h0 : Heap) (n0 : Nat) (Z0 : n0 ≤ h0.size) (O0 : Old Z n0 h0) :
    MetFree l (⟨"com/example/roomwire/roomwire/core/NightStateOverlayPinLaw", "code", "(II)I"⟩ : MethodName) (head1 (Jvm.Cond.code (⟨"com/example/roomwire/roomwire/core/NightStateOverlayPinLaw", "code", "(II)I"⟩ : MethodName) method_4_code 3 (some .int) :: ws) ({ frames := 0, cells := 0, slots := 0, locals := 0 } : Room)) (fun a U => a = #[(.int p0), (.int p1)] ∧ Z.Warmed39 U.vm ∧ U.heap = h0) (fun _ _ _ _ _ => True) (fun _ U o U' => ∃ v L, o = .returned v ∧ Q_rm4 Z wO wC wI cB p0 p1 h0 n0 v U'.heap L ∧ FrameEnd U o U' L ({ frames := 0, cells := 0, slots := 0, locals := 0 } : Room).cells ({ frames := 0, cells := 0, slots := 0, locals := 0 } : Room).slots) := by
  refine MetFree.of_bodySF (plainFor_of_name pn_1) hisR ?_
  intro p e s m args below meth c s₁ Bd hml0 hP hK
  obtain ⟨rfl, hZ, hh⟩ := hP
  have hx := Bd.exec
  have hby := Bd.bytes
  have hml : c.maxLocals = 3 := hml0
  have hown : s.vm.findClass "com/example/roomwire/roomwire/core/NightStateOverlayPinLaw" = some m.cls := findClass_of_methodNamed Bd.named
  have hnm := (name_of_methodNamed Bd.named Bd.method).1
  have X0 : Stand p l e ({ frames := 0, cells := 0, slots := 0, locals := 0 } : Room) s m #[(.int p0), (.int p1)] below meth c s₁ [] 0 0 := Stand.of_body Bd
  have e0 : s₁.heap = h0 := by rw [← hh, Bd.state]; rfl
  have N0 := Fr.nil n0
  have K0 := Keep.refl h0 ([] : List Addr)
  have G_ := G
  obtain ⟨S_Status_OPEN, E_wO, S_Status_CLOSED, E_wC, S_Integer_IntegerCache_cache, E_wI, S_Integer_IntegerCache_high, BX, G_end⟩ := G_
  change own_Go p e below _ _
  refine own_go (B := s₁.setTop (mkF m 0 #[.val (.int p0), .val (.int p1), .unset] [])) (fun _ k => castTop (ef_rm4 m p0 p1) k) ?_
  refine own_go (B := s₁.setTop (mkF m 1 #[.val (.int p0), .val (.int p1), .unset] [(.int p0)])) (fun _ k => XS.iloadN X0.here hx rfl (hb hby d4_0) rfl k) ?_
  refine own_go (B := s₁.setTop (mkF m 2 #[.val (.int p0), .val (.int p1), .unset] [(.int p1), (.int p0)])) (fun _ k => XS.iloadN X0.here hx rfl (hb hby d4_1) rfl k) ?_
  refine own_go (B := s₁.setTop (mkF m 3 #[.val (.int p0), .val (.int p1), .unset] [(.int ((p0.toUInt32 >>> (p1 &&& 31).toUInt32).toInt32))])) (fun _ k => XS.iushr X0.here hx rfl (hb hby d4_2) rfl k) ?_
  refine own_go (B := s₁.setTop (mkF m 4 #[.val (.int p0), .val (.int p1), .unset] [(.int (3 : Int32)), (.int ((p0.toUInt32 >>> (p1 &&& 31).toUInt32).toInt32))])) (fun _ k => XS.iconst X0.here hx rfl (hb hby d4_3) k) ?_
  refine own_go (B := s₁.setTop (mkF m 5 #[.val (.int p0), .val (.int p1), .unset] [(.int (((p0.toUInt32 >>> (p1 &&& 31).toUInt32).toInt32) &&& (3 : Int32)))])) (fun _ k => XS.iand X0.here hx rfl (hb hby d4_4) rfl k) ?_
  generalize hv5 : (((p0.toUInt32 >>> (p1 &&& 31).toUInt32).toInt32) &&& (3 : Int32)) = v5
  refine own_go (B := s₁.setTop (mkF m 6 #[.val (.int p0), .val (.int p1), .val (.int v5)] [])) (fun _ k => XS.istoreN X0.here hx rfl (hb hby d4_5) rfl (l' := #[.val (.int p0), .val (.int p1), .val (.int v5)]) rfl k) ?_
  refine own_go (B := s₁.setTop (mkF m 7 #[.val (.int p0), .val (.int p1), .val (.int v5)] [(.int v5)])) (fun _ k => XS.iloadN X0.here hx rfl (hb hby d4_6) rfl k) ?_
  refine own_go (B := s₁.setTop (mkF m 8 #[.val (.int p0), .val (.int p1), .val (.int v5)] [(.int (3 : Int32)), (.int v5)])) (fun _ k => XS.iconst X0.here hx rfl (hb hby d4_7) k) ?_
  by_cases hc8 : v5 = (3 : Int32)
  · refine own_go (B := s₁.setTop (mkF m 11 #[.val (.int p0), .val (.int p1), .val (.int v5)] [])) (fun _ k => XS.icmpNo X0.here hx rfl (hb hby d4_8) rfl (teq hc8).2 k) ?_
    refine own_go (B := s₁.setTop (mkF m 12 #[.val (.int p0), .val (.int p1), .val (.int v5)] [(.int (0 : Int32))])) (fun _ k => XS.iconst X0.here hx rfl (hb hby d4_11) k) ?_
    refine own_go (B := s₁.setTop (mkF m 16 #[.val (.int p0), .val (.int p1), .val (.int v5)] [(.int (0 : Int32))])) (fun _ k => XS.goto X0.here hx rfl (pc0 := 12) (pc' := 16) rfl (hb hby d4_12) (by decide) (by decide) k) ?_
    obtain ⟨fs, hr, hrun, hended, hW, hsame⟩ := X0.leave (v := some (.int (0 : Int32))) (fun h => by rw [Bd.returns] at h; cases h)
    refine ⟨_, _, retI X0 hx Bd.returns (hb hby d4_16) hr, hrun, hended, _, _, rfl, ?_, ⟨_, rfl⟩, hW, hsame.mono (by decide) (by decide)⟩
    show Q_rm4 Z wO wC wI cB p0 p1 h0 n0 _ s₁.heap _
    rw [e0]
    exact ⟨(by simp only [own_code, hv5]; simp [hc8]), N0, rfl⟩
  · refine own_go (B := s₁.setTop (mkF m 15 #[.val (.int p0), .val (.int p1), .val (.int v5)] [])) (fun _ k => XS.icmpYes X0.here hx rfl (pc0 := 8) (pc' := 15) rfl (hb hby d4_8) rfl (feq hc8).2 (by decide) (by decide) k) ?_
    refine own_go (B := s₁.setTop (mkF m 16 #[.val (.int p0), .val (.int p1), .val (.int v5)] [(.int v5)])) (fun _ k => XS.iloadN X0.here hx rfl (hb hby d4_15) rfl k) ?_
    obtain ⟨fs, hr, hrun, hended, hW, hsame⟩ := X0.leave (v := some (.int v5)) (fun h => by rw [Bd.returns] at h; cases h)
    refine ⟨_, _, retI X0 hx Bd.returns (hb hby d4_16) hr, hrun, hended, _, _, rfl, ?_, ⟨_, rfl⟩, hW, hsame.mono (by decide) (by decide)⟩
    show Q_rm4 Z wO wC wI cB p0 p1 h0 n0 _ s₁.heap _
    rw [e0]
    exact ⟨(by simp only [own_code, hv5]; simp [hc8]), N0, rfl⟩
theorem pd_3 : parseMethodDescriptor "(II)I" = some ⟨[.int, .int], some .int⟩ := by decide +kernel
theorem d3_0 : decode method_5_code 0 = .ok (.iload_n 0, 1) := by decide +kernel
theorem d3_1 : decode method_5_code 1 = .ok (.iload_n 1, 1) := by decide +kernel
theorem d3_2 : decode method_5_code 2 = .ok (.invokestatic 60, 3) := by decide +kernel
theorem d3_5 : decode method_5_code 5 = .ok (.istore_n 2, 1) := by decide +kernel
theorem d3_6 : decode method_5_code 6 = .ok (.iload_n 2, 1) := by decide +kernel
theorem d3_7 : decode method_5_code 7 = .ok (.iconst 1, 1) := by decide +kernel
theorem d3_8 : decode method_5_code 8 = .ok (.if_icmp .ne 7, 3) := by decide +kernel
theorem d3_11 : decode method_5_code 11 = .ok (.getstatic 64, 3) := by decide +kernel
theorem d3_14 : decode method_5_code 14 = .ok (.areturn, 1) := by decide +kernel
theorem d3_15 : decode method_5_code 15 = .ok (.iload_n 2, 1) := by decide +kernel
theorem d3_16 : decode method_5_code 16 = .ok (.iconst 2, 1) := by decide +kernel
theorem d3_17 : decode method_5_code 17 = .ok (.if_icmp .ne 7, 3) := by decide +kernel
theorem d3_20 : decode method_5_code 20 = .ok (.getstatic 70, 3) := by decide +kernel
theorem d3_23 : decode method_5_code 23 = .ok (.areturn, 1) := by decide +kernel
theorem d3_24 : decode method_5_code 24 = .ok (.aconst_null, 1) := by decide +kernel
theorem d3_25 : decode method_5_code 25 = .ok (.areturn, 1) := by decide +kernel
theorem ef_rm3 (m : MethodId) (p0 : Int32) (p1 : Int32) : entryFrame m #[(.int p0), (.int p1)] 3 = mkF m 0 #[.val (.int p0), .val (.int p1), .unset] [] := by first | (simp [entryFrame, mkF, argsToLocals, Value.category]; done) | rfl
def Q_rm3 (Z : State) (wO : Addr) (wC : Addr) (wI : Addr) (cB : Cell) (p0 : Int32) (p1 : Int32) (h0 : Heap) (n0 : Nat) (v : Option Value) (h : Heap) (L : List Loc) : Prop := v = some (own_stv (own_code p0 p1) wO wC) ∧ Fr n0 L ∧ h = h0
set_option maxRecDepth 65536 in
set_option maxHeartbeats 40000000 in
theorem rm3 (l : Launch) (Z : State) (a0 : Array Value) (hw : ∀ d ∈ tables_1, d.before a0 Z = true) (ws : List Jvm.Cond) (wO : Addr) (wC : Addr) (wI : Addr) (cB : Cell) (G : own_G Z wO wC wI cB) (p0 : Int32) (p1 : Int32) (h0 : Heap) (n0 : Nat) (Z0 : n0 ≤ h0.size) (O0 : Old Z n0 h0) :
    MetFree l (⟨"com/example/roomwire/roomwire/core/NightStateOverlayPinLaw", "st", "(II)Lcom/example/roomwire/roomwire/core/Status;"⟩ : MethodName) (head1 (Jvm.Cond.code (⟨"com/example/roomwire/roomwire/core/NightStateOverlayPinLaw", "st", "(II)Lcom/example/roomwire/roomwire/core/Status;"⟩ : MethodName) method_5_code 3 (some (.object "com/example/roomwire/roomwire/core/Status")) :: ws) ({ frames := 1, cells := 0, slots := 0, locals := 14 } : Room)) (fun a U => a = #[(.int p0), (.int p1)] ∧ Z.Warmed39 U.vm ∧ U.heap = h0) (fun _ _ _ _ _ => True) (fun _ U o U' => ∃ v L, o = .returned v ∧ Q_rm3 Z wO wC wI cB p0 p1 h0 n0 v U'.heap L ∧ FrameEnd U o U' L ({ frames := 1, cells := 0, slots := 0, locals := 14 } : Room).cells ({ frames := 1, cells := 0, slots := 0, locals := 14 } : Room).slots) := by
  refine MetFree.of_bodySF (plainFor_of_name pn_1) hisR ?_
  intro p e s m args below meth c s₁ Bd hml0 hP hK
  obtain ⟨rfl, hZ, hh⟩ := hP
  have hx := Bd.exec
  have hby := Bd.bytes
  have hml : c.maxLocals = 3 := hml0
  have hown : s.vm.findClass "com/example/roomwire/roomwire/core/NightStateOverlayPinLaw" = some m.cls := findClass_of_methodNamed Bd.named
  have hnm := (name_of_methodNamed Bd.named Bd.method).1
  have X0 : Stand p l e ({ frames := 1, cells := 0, slots := 0, locals := 14 } : Room) s m #[(.int p0), (.int p1)] below meth c s₁ [] 0 0 := Stand.of_body Bd
  have e0 : s₁.heap = h0 := by rw [← hh, Bd.state]; rfl
  have N0 := Fr.nil n0
  have K0 := Keep.refl h0 ([] : List Addr)
  have G_ := G
  obtain ⟨S_Status_OPEN, E_wO, S_Status_CLOSED, E_wC, S_Integer_IntegerCache_cache, E_wI, S_Integer_IntegerCache_high, BX, G_end⟩ := G_
  change own_Go p e below _ _
  refine own_go (B := s₁.setTop (mkF m 0 #[.val (.int p0), .val (.int p1), .unset] [])) (fun _ k => castTop (ef_rm3 m p0 p1) k) ?_
  refine own_go (B := s₁.setTop (mkF m 1 #[.val (.int p0), .val (.int p1), .unset] [(.int p0)])) (fun _ k => XS.iloadN X0.here hx rfl (hb hby d3_0) rfl k) ?_
  refine own_go (B := s₁.setTop (mkF m 2 #[.val (.int p0), .val (.int p1), .unset] [(.int p1), (.int p0)])) (fun _ k => XS.iloadN X0.here hx rfl (hb hby d3_1) rfl k) ?_
  obtain ⟨_, _, ⟨T101, L101, k101, n101⟩, -, X101, ⟨Lc101, hQ101, l101, y101, z101⟩, st101⟩ := Jvm.LawKit.callS X0 hx (y := (⟨"com/example/roomwire/roomwire/core/NightStateOverlayPinLaw", "code", "(II)I"⟩ : MethodName)) hown (mvT hZ (hw _ (List.mem_of_getElem? (i := 17) rfl))) (mvT hZ (hw _ (List.mem_of_getElem? (i := 18) rfl))) (mvT hZ (hw _ (List.mem_of_getElem? (i := 5) rfl))) (mvT hZ (hw _ (List.mem_of_getElem? (i := 19) rfl))) (by decide) (backOf (W := 0) (rm4 l Z a0 hw [] wO wC wI cB G p0 p1 h0 n0 (Nat.le_trans Z0 K0.1) O0 ) hZ (hw _ (List.mem_of_getElem? (i := 19) rfl)) (hw _ (List.mem_of_getElem? (i := 5) rfl)) (by decide) (by decide)) (g := (mkF m 2 #[.val (.int p0), .val (.int p1), .unset] [(.int p1), (.int p0)])) rfl (by rw [hml]; rfl) (argsL := [(.int p0), (.int p1)]) (rest := []) (lenOf pd_3 rfl) rfl (by show 2 * 0 + _ ≤ _; exact Nat.le_of_eq rfl) (hb hby d3_2) (fun _ _ => ⟨rfl, e0, (by decide : 0 + 0 ≤ 0), (by decide : 0 + 0 ≤ 0)⟩)
  dsimp only [Pt.U, Pt.locs, Pt.cells, Pt.slots] at X101 l101 y101 z101 st101 hQ101
  rw [l101, y101, z101] at X101
  obtain ⟨rfl, N101q, K101⟩ := hQ101
  have N101 := Fr.app N0 N101q
  have e101 : T101.heap = h0 := K101
  refine own_go (B := T101.setTop (mkF m 5 #[.val (.int p0), .val (.int p1), .unset] [(.int (own_code p0 p1))])) (st101) ?_
  generalize hv5 : (own_code p0 p1) = v5
  refine own_go (B := T101.setTop (mkF m 6 #[.val (.int p0), .val (.int p1), .val (.int v5)] [])) (fun _ k => XS.istoreN X101.here hx rfl (hb hby d3_5) rfl (l' := #[.val (.int p0), .val (.int p1), .val (.int v5)]) rfl k) ?_
  refine own_go (B := T101.setTop (mkF m 7 #[.val (.int p0), .val (.int p1), .val (.int v5)] [(.int v5)])) (fun _ k => XS.iloadN X101.here hx rfl (hb hby d3_6) rfl k) ?_
  refine own_go (B := T101.setTop (mkF m 8 #[.val (.int p0), .val (.int p1), .val (.int v5)] [(.int (1 : Int32)), (.int v5)])) (fun _ k => XS.iconst X101.here hx rfl (hb hby d3_7) k) ?_
  by_cases hc8 : v5 = (1 : Int32)
  · refine own_go (B := T101.setTop (mkF m 11 #[.val (.int p0), .val (.int p1), .val (.int v5)] [])) (fun _ k => XS.icmpNo X101.here hx rfl (hb hby d3_8) rfl (teq hc8).2 k) ?_
    obtain ⟨T102, X102, e102, st102⟩ := getS2 X101 hx hZ hown (host := "") (Or.inl (hw _ (List.mem_of_getElem? (i := 110) rfl))) Via.refl e101 (S_Status_OPEN.ext O0.2) (g := (mkF m 11 #[.val (.int p0), .val (.int p1), .val (.int v5)] [])) rfl (hb hby d3_11)
    refine own_go (B := T102.setTop (mkF m 14 #[.val (.int p0), .val (.int p1), .val (.int v5)] [(.ref wO)])) (st102) ?_
    obtain ⟨fs, hr, hrun, hended, hW, hsame⟩ := X102.leave (v := some (.ref wO)) (fun h => by rw [Bd.returns] at h; cases h)
    refine ⟨_, _, retOut X102 hx Bd.returns rfl (Or.inr (Or.inr (Or.inr (Or.inr ⟨rfl, rfl, rfl⟩)))) (hb hby d3_14) hr, hrun, hended, _, _, rfl, ?_, ⟨_, rfl⟩, hW, hsame.mono (by decide) (by decide)⟩
    show Q_rm3 Z wO wC wI cB p0 p1 h0 n0 _ T102.heap _
    rw [e102]
    exact ⟨(by rw [hv5]; simp [own_stv, hc8]), N101, rfl⟩
  · refine own_go (B := T101.setTop (mkF m 15 #[.val (.int p0), .val (.int p1), .val (.int v5)] [])) (fun _ k => XS.icmpYes X101.here hx rfl (pc0 := 8) (pc' := 15) rfl (hb hby d3_8) rfl (feq hc8).2 (by decide) (by decide) k) ?_
    refine own_go (B := T101.setTop (mkF m 16 #[.val (.int p0), .val (.int p1), .val (.int v5)] [(.int v5)])) (fun _ k => XS.iloadN X101.here hx rfl (hb hby d3_15) rfl k) ?_
    refine own_go (B := T101.setTop (mkF m 17 #[.val (.int p0), .val (.int p1), .val (.int v5)] [(.int (2 : Int32)), (.int v5)])) (fun _ k => XS.iconst X101.here hx rfl (hb hby d3_16) k) ?_
    by_cases hc17 : v5 = (2 : Int32)
    · refine own_go (B := T101.setTop (mkF m 20 #[.val (.int p0), .val (.int p1), .val (.int v5)] [])) (fun _ k => XS.icmpNo X101.here hx rfl (hb hby d3_17) rfl (teq hc17).2 k) ?_
      obtain ⟨T103, X103, e103, st103⟩ := getS2 X101 hx hZ hown (host := "") (Or.inl (hw _ (List.mem_of_getElem? (i := 115) rfl))) Via.refl e101 (S_Status_CLOSED.ext O0.2) (g := (mkF m 20 #[.val (.int p0), .val (.int p1), .val (.int v5)] [])) rfl (hb hby d3_20)
      refine own_go (B := T103.setTop (mkF m 23 #[.val (.int p0), .val (.int p1), .val (.int v5)] [(.ref wC)])) (st103) ?_
      obtain ⟨fs, hr, hrun, hended, hW, hsame⟩ := X103.leave (v := some (.ref wC)) (fun h => by rw [Bd.returns] at h; cases h)
      refine ⟨_, _, retOut X103 hx Bd.returns rfl (Or.inr (Or.inr (Or.inr (Or.inr ⟨rfl, rfl, rfl⟩)))) (hb hby d3_23) hr, hrun, hended, _, _, rfl, ?_, ⟨_, rfl⟩, hW, hsame.mono (by decide) (by decide)⟩
      show Q_rm3 Z wO wC wI cB p0 p1 h0 n0 _ T103.heap _
      rw [e103]
      exact ⟨(by rw [hv5]; simp [own_stv, hc8, hc17]), N101, rfl⟩
    · refine own_go (B := T101.setTop (mkF m 24 #[.val (.int p0), .val (.int p1), .val (.int v5)] [])) (fun _ k => XS.icmpYes X101.here hx rfl (pc0 := 17) (pc' := 24) rfl (hb hby d3_17) rfl (feq hc17).2 (by decide) (by decide) k) ?_
      refine own_go (B := T101.setTop (mkF m 25 #[.val (.int p0), .val (.int p1), .val (.int v5)] [.null])) (fun _ k => XS.aconstNull X101.here hx rfl (hb hby d3_24) k) ?_
      obtain ⟨fs, hr, hrun, hended, hW, hsame⟩ := X101.leave (v := some .null) (fun h => by rw [Bd.returns] at h; cases h)
      refine ⟨_, _, retOut X101 hx Bd.returns rfl (Or.inr (Or.inr (Or.inr (Or.inr ⟨rfl, rfl, rfl⟩)))) (hb hby d3_25) hr, hrun, hended, _, _, rfl, ?_, ⟨_, rfl⟩, hW, hsame.mono (by decide) (by decide)⟩
      show Q_rm3 Z wO wC wI cB p0 p1 h0 n0 _ T101.heap _
      rw [e101]
      exact ⟨(by rw [hv5]; simp [own_stv, hc8, hc17]), N101, rfl⟩
theorem d8_0 : decode prog_25_method_1_code 0 = .ok (.aload_n 0, 1) := by decide +kernel
theorem d8_1 : decode prog_25_method_1_code 1 = .ok (.invokespecial 1, 3) := by decide +kernel
theorem d8_4 : decode prog_25_method_1_code 4 = .ok (.aload_n 0, 1) := by decide +kernel
theorem d8_5 : decode prog_25_method_1_code 5 = .ok (.aload_n 1, 1) := by decide +kernel
theorem d8_6 : decode prog_25_method_1_code 6 = .ok (.putfield 7, 3) := by decide +kernel
theorem d8_9 : decode prog_25_method_1_code 9 = .ok (.aload_n 0, 1) := by decide +kernel
theorem d8_10 : decode prog_25_method_1_code 10 = .ok (.aload_n 2, 1) := by decide +kernel
theorem d8_11 : decode prog_25_method_1_code 11 = .ok (.putfield 13, 3) := by decide +kernel
theorem d8_14 : decode prog_25_method_1_code 14 = .ok (.aload_n 0, 1) := by decide +kernel
theorem d8_15 : decode prog_25_method_1_code 15 = .ok (.aload_n 3, 1) := by decide +kernel
theorem d8_16 : decode prog_25_method_1_code 16 = .ok (.putfield 17, 3) := by decide +kernel
theorem d8_19 : decode prog_25_method_1_code 19 = .ok (.aload_n 0, 1) := by decide +kernel
theorem d8_20 : decode prog_25_method_1_code 20 = .ok (.aload 4, 2) := by decide +kernel
theorem d8_22 : decode prog_25_method_1_code 22 = .ok (.putfield 20, 3) := by decide +kernel
theorem d8_25 : decode prog_25_method_1_code 25 = .ok (.aload_n 0, 1) := by decide +kernel
theorem d8_26 : decode prog_25_method_1_code 26 = .ok (.aload 5, 2) := by decide +kernel
theorem d8_28 : decode prog_25_method_1_code 28 = .ok (.putfield 23, 3) := by decide +kernel
theorem d8_31 : decode prog_25_method_1_code 31 = .ok (.aload_n 0, 1) := by decide +kernel
theorem d8_32 : decode prog_25_method_1_code 32 = .ok (.aload 6, 2) := by decide +kernel
theorem d8_34 : decode prog_25_method_1_code 34 = .ok (.putfield 26, 3) := by decide +kernel
theorem d8_37 : decode prog_25_method_1_code 37 = .ok (.return_, 1) := by decide +kernel
theorem pn_8 : plainName "com/example/roomwire/roomwire/core/NightState" = true := by first | (simp [plainName, overriddenIn]; done) | decide +kernel
theorem ef_rm8 (m : MethodId) (a0_ : Addr) (u0 : Value) (u1 : Value) (u2 : Value) (u3 : Value) (u4 : Value) (u5 : Value) (hu0 : u0.isRef = true) (hu1 : u1.isRef = true) (hu2 : u2.isRef = true) (hu3 : u3.isRef = true) (hu4 : u4.isRef = true) (hu5 : u5.isRef = true) : entryFrame m #[(.ref a0_), u0, u1, u2, u3, u4, u5] 7 = mkF m 0 #[.val (.ref a0_), .val u0, .val u1, .val u2, .val u3, .val u4, .val u5] [] := by (rcases Jvm.Free.XT.refc hu0 with rfl | ⟨_, rfl⟩) <;> (rcases Jvm.Free.XT.refc hu1 with rfl | ⟨_, rfl⟩) <;> (rcases Jvm.Free.XT.refc hu2 with rfl | ⟨_, rfl⟩) <;> (rcases Jvm.Free.XT.refc hu3 with rfl | ⟨_, rfl⟩) <;> (rcases Jvm.Free.XT.refc hu4 with rfl | ⟨_, rfl⟩) <;> (rcases Jvm.Free.XT.refc hu5 with rfl | ⟨_, rfl⟩) <;> first | (simp [entryFrame, mkF, argsToLocals, Value.category]; done) | rfl
def Q_rm8 (Z : State) (wO : Addr) (wC : Addr) (wI : Addr) (cB : Cell) (a0_ : Addr) (u0 : Value) (u1 : Value) (u2 : Value) (u3 : Value) (u4 : Value) (u5 : Value) (h0 : Heap) (n0 : Nat) (v : Option Value) (h : Heap) (L : List Loc) : Prop := v = none ∧ Fr n0 L ∧ Keep h0 h [a0_] ∧ Fld Z h a0_ "com/example/roomwire/roomwire/core/NightState" "bookingLimit" "Ljava/lang/Integer;" u0 ∧ Fld Z h a0_ "com/example/roomwire/roomwire/core/NightState" "master" "Lcom/example/roomwire/roomwire/core/Status;" u1 ∧ Fld Z h a0_ "com/example/roomwire/roomwire/core/NightState" "arrival" "Lcom/example/roomwire/roomwire/core/Status;" u2 ∧ Fld Z h a0_ "com/example/roomwire/roomwire/core/NightState" "departure" "Lcom/example/roomwire/roomwire/core/Status;" u3 ∧ Fld Z h a0_ "com/example/roomwire/roomwire/core/NightState" "minStay" "Ljava/lang/Integer;" u4 ∧ Fld Z h a0_ "com/example/roomwire/roomwire/core/NightState" "maxStay" "Ljava/lang/Integer;" u5
set_option maxRecDepth 65536 in
set_option maxHeartbeats 40000000 in
theorem rm8 (l : Launch) (Z : State) (a0 : Array Value) (hw : ∀ d ∈ tables_1, d.before a0 Z = true) (ws : List Jvm.Cond) (wO : Addr) (wC : Addr) (wI : Addr) (cB : Cell) (G : own_G Z wO wC wI cB) (a0_ : Addr) (u0 : Value) (u1 : Value) (u2 : Value) (u3 : Value) (u4 : Value) (u5 : Value) (h0 : Heap) (n0 : Nat) (Z0 : n0 ≤ h0.size) (O0 : Old Z n0 h0) (hu0 : u0.isRef = true) (hu1 : u1.isRef = true) (hu2 : u2.isRef = true) (hu3 : u3.isRef = true) (hu4 : u4.isRef = true) (hu5 : u5.isRef = true) (E1 : Exa Z h0 a0_ "com/example/roomwire/roomwire/core/NightState") (g1 : n0 ≤ a0_) (F0 : Fld Z h0 a0_ "com/example/roomwire/roomwire/core/NightState" "bookingLimit" "Ljava/lang/Integer;" .null) (F1 : Fld Z h0 a0_ "com/example/roomwire/roomwire/core/NightState" "master" "Lcom/example/roomwire/roomwire/core/Status;" .null) (F2 : Fld Z h0 a0_ "com/example/roomwire/roomwire/core/NightState" "arrival" "Lcom/example/roomwire/roomwire/core/Status;" .null) (F3 : Fld Z h0 a0_ "com/example/roomwire/roomwire/core/NightState" "departure" "Lcom/example/roomwire/roomwire/core/Status;" .null) (F4 : Fld Z h0 a0_ "com/example/roomwire/roomwire/core/NightState" "minStay" "Ljava/lang/Integer;" .null) (F5 : Fld Z h0 a0_ "com/example/roomwire/roomwire/core/NightState" "maxStay" "Ljava/lang/Integer;" .null) :
    MetFree l (⟨"com/example/roomwire/roomwire/core/NightState", "<init>", "(Ljava/lang/Integer;Lcom/example/roomwire/roomwire/core/Status;Lcom/example/roomwire/roomwire/core/Status;Lcom/example/roomwire/roomwire/core/Status;Ljava/lang/Integer;Ljava/lang/Integer;)V"⟩ : MethodName) (head1 (Jvm.Cond.code (⟨"com/example/roomwire/roomwire/core/NightState", "<init>", "(Ljava/lang/Integer;Lcom/example/roomwire/roomwire/core/Status;Lcom/example/roomwire/roomwire/core/Status;Lcom/example/roomwire/roomwire/core/Status;Ljava/lang/Integer;Ljava/lang/Integer;)V"⟩ : MethodName) prog_25_method_1_code 7 none :: ws) ({ frames := 2, cells := 0, slots := 0, locals := 24 } : Room)) (fun a U => a = #[(.ref a0_), u0, u1, u2, u3, u4, u5] ∧ Z.Warmed39 U.vm ∧ U.heap = h0) (fun _ _ _ _ _ => True) (fun _ U o U' => ∃ v L, o = .returned v ∧ Q_rm8 Z wO wC wI cB a0_ u0 u1 u2 u3 u4 u5 h0 n0 v U'.heap L ∧ FrameEnd U o U' L ({ frames := 2, cells := 0, slots := 0, locals := 24 } : Room).cells ({ frames := 2, cells := 0, slots := 0, locals := 24 } : Room).slots) := by
  refine MetFree.of_bodySF (plainFor_of_name pn_8) hisR ?_
  intro p e s m args below meth c s₁ Bd hml0 hP hK
  obtain ⟨rfl, hZ, hh⟩ := hP
  have hx := Bd.exec
  have hby := Bd.bytes
  have hml : c.maxLocals = 7 := hml0
  have hown : s.vm.findClass "com/example/roomwire/roomwire/core/NightState" = some m.cls := findClass_of_methodNamed Bd.named
  have hnm := (name_of_methodNamed Bd.named Bd.method).1
  have X0 : Stand p l e ({ frames := 2, cells := 0, slots := 0, locals := 24 } : Room) s m #[(.ref a0_), u0, u1, u2, u3, u4, u5] below meth c s₁ [] 0 0 := Stand.of_body Bd
  have e0 : s₁.heap = h0 := by rw [← hh, Bd.state]; rfl
  have N0 := Fr.nil n0
  have K0 := Keep.refl h0 ([a0_] : List Addr)
  have G_ := G
  obtain ⟨S_Status_OPEN, E_wO, S_Status_CLOSED, E_wC, S_Integer_IntegerCache_cache, E_wI, S_Integer_IntegerCache_high, BX, G_end⟩ := G_
  change own_Go p e below _ _
  refine own_go (B := s₁.setTop (mkF m 0 #[.val (.ref a0_), .val u0, .val u1, .val u2, .val u3, .val u4, .val u5] [])) (fun _ k => castTop (ef_rm8 m a0_ u0 u1 u2 u3 u4 u5 hu0 hu1 hu2 hu3 hu4 hu5) k) ?_
  refine own_go (B := s₁.setTop (mkF m 1 #[.val (.ref a0_), .val u0, .val u1, .val u2, .val u3, .val u4, .val u5] [(.ref a0_)])) (fun _ k => XS.aloadN X0.here hx rfl (hb hby d8_0) rfl rfl k) ?_
  obtain ⟨_, _, ⟨T101, L101, k101, n101⟩, -, X101, ⟨Lc101, hQ101, l101, y101, z101⟩, st101⟩ := X0.specialBack hx (y := (⟨"java/lang/Record", "<init>", "()V"⟩ : MethodName)) rfl hown (mvT hZ (hw _ (List.mem_of_getElem? (i := 40) rfl))) (mvT hZ (hw _ (List.mem_of_getElem? (i := 41) rfl))) (mvT hZ (hw _ (List.mem_of_getElem? (i := 44) rfl))) (by decide) (backOf (W := 0) (rm9 l Z a0 hw [] wO wC wI cB G a0_ h0 n0 (Nat.le_trans Z0 K0.1) O0 ) hZ (hw _ (List.mem_of_getElem? (i := 44) rfl)) (hw _ (List.mem_of_getElem? (i := 43) rfl)) (by decide) (by decide)) (g := (mkF m 1 #[.val (.ref a0_), .val u0, .val u1, .val u2, .val u3, .val u4, .val u5] [(.ref a0_)])) rfl (by rw [hml]; rfl) (Steps.refl _) (a := a0_) (argsL := []) (rest := []) (lenOf pd_0 rfl) rfl (by show 2 * 0 + _ ≤ _; exact Nat.le_of_eq rfl) (hb hby d8_1) (fun _ _ => ⟨rfl, e0, (by decide : 0 + 0 ≤ 0), (by decide : 0 + 0 ≤ 0)⟩)
  dsimp only [Pt.U, Pt.locs, Pt.cells, Pt.slots] at X101 l101 y101 z101 st101 hQ101
  rw [l101, y101, z101] at X101
  obtain ⟨rfl, N101q, K101⟩ := hQ101
  have N101 := Fr.app N0 N101q
  have e101 : T101.heap = h0 := K101
  refine own_go (B := T101.setTop (mkF m 4 #[.val (.ref a0_), .val u0, .val u1, .val u2, .val u3, .val u4, .val u5] [])) (fun _ k => st101.trans k) ?_
  refine own_go (B := T101.setTop (mkF m 5 #[.val (.ref a0_), .val u0, .val u1, .val u2, .val u3, .val u4, .val u5] [(.ref a0_)])) (fun _ k => XS.aloadN X101.here hx rfl (hb hby d8_4) rfl rfl k) ?_
  refine own_go (B := T101.setTop (mkF m 6 #[.val (.ref a0_), .val u0, .val u1, .val u2, .val u3, .val u4, .val u5] [u0, (.ref a0_)])) (fun _ k => XS.aloadN X101.here hx rfl (hb hby d8_5) rfl hu0 k) ?_
  obtain ⟨T102, h102, X102, e102, W102, st102⟩ := putF X101 hx hZ hown (host := "") (Or.inl (hw _ (List.mem_of_getElem? (i := 46) rfl))) Via.refl e101 F0 E1 (Or.inr ⟨(hw _ (List.mem_of_getElem? (i := 47) rfl)), rfl, hnm⟩) (hw _ (List.mem_of_getElem? (i := 1) rfl)) (ty := (.object "java/lang/Integer")) (by decide) rfl (own_fits hu0 rfl) (g := (mkF m 6 #[.val (.ref a0_), .val u0, .val u1, .val u2, .val u3, .val u4, .val u5] [u0, (.ref a0_)])) rfl rfl (hb hby d8_6)
  have Fw102 := F0.same W102
  have O102 := O0.wr W102 g1
  have N102 := Fr.snoc X102 N101 g1
  have K102' : Keep h0 h102 ([a0_] : List Addr) := K0.wr W102 (Or.inl (List.mem_of_getElem? (i := 0) rfl))
  refine own_go (B := T102.setTop (mkF m 9 #[.val (.ref a0_), .val u0, .val u1, .val u2, .val u3, .val u4, .val u5] [])) (st102) ?_
  refine own_go (B := T102.setTop (mkF m 10 #[.val (.ref a0_), .val u0, .val u1, .val u2, .val u3, .val u4, .val u5] [(.ref a0_)])) (fun _ k => XS.aloadN X102.here hx rfl (hb hby d8_9) rfl rfl k) ?_
  refine own_go (B := T102.setTop (mkF m 11 #[.val (.ref a0_), .val u0, .val u1, .val u2, .val u3, .val u4, .val u5] [u1, (.ref a0_)])) (fun _ k => XS.aloadN X102.here hx rfl (hb hby d8_10) rfl hu1 k) ?_
  obtain ⟨T103, h103, X103, e103, W103, st103⟩ := putF X102 hx hZ hown (host := "") (Or.inl (hw _ (List.mem_of_getElem? (i := 48) rfl))) Via.refl e102 (F1.other W102 (Or.inr (slot_ne (Or.inr (hw _ (List.mem_of_getElem? (i := 49) rfl))) (Or.inr (hw _ (List.mem_of_getElem? (i := 47) rfl))) (by decide) (t := (.object "com/example/roomwire/roomwire/core/Status")) (t' := (.object "java/lang/Integer")) (by decide) (by decide)))) (E1.wr W102) (Or.inr ⟨(hw _ (List.mem_of_getElem? (i := 49) rfl)), rfl, hnm⟩) (hw _ (List.mem_of_getElem? (i := 1) rfl)) (ty := (.object "com/example/roomwire/roomwire/core/Status")) (by decide) rfl (own_fits hu1 rfl) (g := (mkF m 11 #[.val (.ref a0_), .val u0, .val u1, .val u2, .val u3, .val u4, .val u5] [u1, (.ref a0_)])) rfl rfl (hb hby d8_11)
  have Fw103 := (F1.other W102 (Or.inr (slot_ne (Or.inr (hw _ (List.mem_of_getElem? (i := 49) rfl))) (Or.inr (hw _ (List.mem_of_getElem? (i := 47) rfl))) (by decide) (t := (.object "com/example/roomwire/roomwire/core/Status")) (t' := (.object "java/lang/Integer")) (by decide) (by decide)))).same W103
  have O103 := O102.wr W103 g1
  have N103 := Fr.snoc X103 N102 g1
  have K103' : Keep h0 h103 ([a0_] : List Addr) := K102'.wr W103 (Or.inl (List.mem_of_getElem? (i := 0) rfl))
  refine own_go (B := T103.setTop (mkF m 14 #[.val (.ref a0_), .val u0, .val u1, .val u2, .val u3, .val u4, .val u5] [])) (st103) ?_
  refine own_go (B := T103.setTop (mkF m 15 #[.val (.ref a0_), .val u0, .val u1, .val u2, .val u3, .val u4, .val u5] [(.ref a0_)])) (fun _ k => XS.aloadN X103.here hx rfl (hb hby d8_14) rfl rfl k) ?_
  refine own_go (B := T103.setTop (mkF m 16 #[.val (.ref a0_), .val u0, .val u1, .val u2, .val u3, .val u4, .val u5] [u2, (.ref a0_)])) (fun _ k => XS.aloadN X103.here hx rfl (hb hby d8_15) rfl hu2 k) ?_
  obtain ⟨T104, h104, X104, e104, W104, st104⟩ := putF X103 hx hZ hown (host := "") (Or.inl (hw _ (List.mem_of_getElem? (i := 50) rfl))) Via.refl e103 ((F2.other W102 (Or.inr (slot_ne (Or.inr (hw _ (List.mem_of_getElem? (i := 51) rfl))) (Or.inr (hw _ (List.mem_of_getElem? (i := 47) rfl))) (by decide) (t := (.object "com/example/roomwire/roomwire/core/Status")) (t' := (.object "java/lang/Integer")) (by decide) (by decide)))).other W103 (Or.inr (slot_ne (Or.inr (hw _ (List.mem_of_getElem? (i := 51) rfl))) (Or.inr (hw _ (List.mem_of_getElem? (i := 49) rfl))) (by decide) (t := (.object "com/example/roomwire/roomwire/core/Status")) (t' := (.object "com/example/roomwire/roomwire/core/Status")) (by decide) (by decide)))) ((E1.wr W102).wr W103) (Or.inr ⟨(hw _ (List.mem_of_getElem? (i := 51) rfl)), rfl, hnm⟩) (hw _ (List.mem_of_getElem? (i := 1) rfl)) (ty := (.object "com/example/roomwire/roomwire/core/Status")) (by decide) rfl (own_fits hu2 rfl) (g := (mkF m 16 #[.val (.ref a0_), .val u0, .val u1, .val u2, .val u3, .val u4, .val u5] [u2, (.ref a0_)])) rfl rfl (hb hby d8_16)
  have Fw104 := ((F2.other W102 (Or.inr (slot_ne (Or.inr (hw _ (List.mem_of_getElem? (i := 51) rfl))) (Or.inr (hw _ (List.mem_of_getElem? (i := 47) rfl))) (by decide) (t := (.object "com/example/roomwire/roomwire/core/Status")) (t' := (.object "java/lang/Integer")) (by decide) (by decide)))).other W103 (Or.inr (slot_ne (Or.inr (hw _ (List.mem_of_getElem? (i := 51) rfl))) (Or.inr (hw _ (List.mem_of_getElem? (i := 49) rfl))) (by decide) (t := (.object "com/example/roomwire/roomwire/core/Status")) (t' := (.object "com/example/roomwire/roomwire/core/Status")) (by decide) (by decide)))).same W104
  have O104 := O103.wr W104 g1
  have N104 := Fr.snoc X104 N103 g1
  have K104' : Keep h0 h104 ([a0_] : List Addr) := K103'.wr W104 (Or.inl (List.mem_of_getElem? (i := 0) rfl))
  refine own_go (B := T104.setTop (mkF m 19 #[.val (.ref a0_), .val u0, .val u1, .val u2, .val u3, .val u4, .val u5] [])) (st104) ?_
  refine own_go (B := T104.setTop (mkF m 20 #[.val (.ref a0_), .val u0, .val u1, .val u2, .val u3, .val u4, .val u5] [(.ref a0_)])) (fun _ k => XS.aloadN X104.here hx rfl (hb hby d8_19) rfl rfl k) ?_
  refine own_go (B := T104.setTop (mkF m 22 #[.val (.ref a0_), .val u0, .val u1, .val u2, .val u3, .val u4, .val u5] [u3, (.ref a0_)])) (fun _ k => XS.aload X104.here hx rfl (hb hby d8_20) rfl hu3 k) ?_
  obtain ⟨T105, h105, X105, e105, W105, st105⟩ := putF X104 hx hZ hown (host := "") (Or.inl (hw _ (List.mem_of_getElem? (i := 52) rfl))) Via.refl e104 (((F3.other W102 (Or.inr (slot_ne (Or.inr (hw _ (List.mem_of_getElem? (i := 53) rfl))) (Or.inr (hw _ (List.mem_of_getElem? (i := 47) rfl))) (by decide) (t := (.object "com/example/roomwire/roomwire/core/Status")) (t' := (.object "java/lang/Integer")) (by decide) (by decide)))).other W103 (Or.inr (slot_ne (Or.inr (hw _ (List.mem_of_getElem? (i := 53) rfl))) (Or.inr (hw _ (List.mem_of_getElem? (i := 49) rfl))) (by decide) (t := (.object "com/example/roomwire/roomwire/core/Status")) (t' := (.object "com/example/roomwire/roomwire/core/Status")) (by decide) (by decide)))).other W104 (Or.inr (slot_ne (Or.inr (hw _ (List.mem_of_getElem? (i := 53) rfl))) (Or.inr (hw _ (List.mem_of_getElem? (i := 51) rfl))) (by decide) (t := (.object "com/example/roomwire/roomwire/core/Status")) (t' := (.object "com/example/roomwire/roomwire/core/Status")) (by decide) (by decide)))) (((E1.wr W102).wr W103).wr W104) (Or.inr ⟨(hw _ (List.mem_of_getElem? (i := 53) rfl)), rfl, hnm⟩) (hw _ (List.mem_of_getElem? (i := 1) rfl)) (ty := (.object "com/example/roomwire/roomwire/core/Status")) (by decide) rfl (own_fits hu3 rfl) (g := (mkF m 22 #[.val (.ref a0_), .val u0, .val u1, .val u2, .val u3, .val u4, .val u5] [u3, (.ref a0_)])) rfl rfl (hb hby d8_22)
  have Fw105 := (((F3.other W102 (Or.inr (slot_ne (Or.inr (hw _ (List.mem_of_getElem? (i := 53) rfl))) (Or.inr (hw _ (List.mem_of_getElem? (i := 47) rfl))) (by decide) (t := (.object "com/example/roomwire/roomwire/core/Status")) (t' := (.object "java/lang/Integer")) (by decide) (by decide)))).other W103 (Or.inr (slot_ne (Or.inr (hw _ (List.mem_of_getElem? (i := 53) rfl))) (Or.inr (hw _ (List.mem_of_getElem? (i := 49) rfl))) (by decide) (t := (.object "com/example/roomwire/roomwire/core/Status")) (t' := (.object "com/example/roomwire/roomwire/core/Status")) (by decide) (by decide)))).other W104 (Or.inr (slot_ne (Or.inr (hw _ (List.mem_of_getElem? (i := 53) rfl))) (Or.inr (hw _ (List.mem_of_getElem? (i := 51) rfl))) (by decide) (t := (.object "com/example/roomwire/roomwire/core/Status")) (t' := (.object "com/example/roomwire/roomwire/core/Status")) (by decide) (by decide)))).same W105
  have O105 := O104.wr W105 g1
  have N105 := Fr.snoc X105 N104 g1
  have K105' : Keep h0 h105 ([a0_] : List Addr) := K104'.wr W105 (Or.inl (List.mem_of_getElem? (i := 0) rfl))
  refine own_go (B := T105.setTop (mkF m 25 #[.val (.ref a0_), .val u0, .val u1, .val u2, .val u3, .val u4, .val u5] [])) (st105) ?_
  refine own_go (B := T105.setTop (mkF m 26 #[.val (.ref a0_), .val u0, .val u1, .val u2, .val u3, .val u4, .val u5] [(.ref a0_)])) (fun _ k => XS.aloadN X105.here hx rfl (hb hby d8_25) rfl rfl k) ?_
  refine own_go (B := T105.setTop (mkF m 28 #[.val (.ref a0_), .val u0, .val u1, .val u2, .val u3, .val u4, .val u5] [u4, (.ref a0_)])) (fun _ k => XS.aload X105.here hx rfl (hb hby d8_26) rfl hu4 k) ?_
  obtain ⟨T106, h106, X106, e106, W106, st106⟩ := putF X105 hx hZ hown (host := "") (Or.inl (hw _ (List.mem_of_getElem? (i := 54) rfl))) Via.refl e105 ((((F4.other W102 (Or.inr (slot_ne (Or.inr (hw _ (List.mem_of_getElem? (i := 55) rfl))) (Or.inr (hw _ (List.mem_of_getElem? (i := 47) rfl))) (by decide) (t := (.object "java/lang/Integer")) (t' := (.object "java/lang/Integer")) (by decide) (by decide)))).other W103 (Or.inr (slot_ne (Or.inr (hw _ (List.mem_of_getElem? (i := 55) rfl))) (Or.inr (hw _ (List.mem_of_getElem? (i := 49) rfl))) (by decide) (t := (.object "java/lang/Integer")) (t' := (.object "com/example/roomwire/roomwire/core/Status")) (by decide) (by decide)))).other W104 (Or.inr (slot_ne (Or.inr (hw _ (List.mem_of_getElem? (i := 55) rfl))) (Or.inr (hw _ (List.mem_of_getElem? (i := 51) rfl))) (by decide) (t := (.object "java/lang/Integer")) (t' := (.object "com/example/roomwire/roomwire/core/Status")) (by decide) (by decide)))).other W105 (Or.inr (slot_ne (Or.inr (hw _ (List.mem_of_getElem? (i := 55) rfl))) (Or.inr (hw _ (List.mem_of_getElem? (i := 53) rfl))) (by decide) (t := (.object "java/lang/Integer")) (t' := (.object "com/example/roomwire/roomwire/core/Status")) (by decide) (by decide)))) ((((E1.wr W102).wr W103).wr W104).wr W105) (Or.inr ⟨(hw _ (List.mem_of_getElem? (i := 55) rfl)), rfl, hnm⟩) (hw _ (List.mem_of_getElem? (i := 1) rfl)) (ty := (.object "java/lang/Integer")) (by decide) rfl (own_fits hu4 rfl) (g := (mkF m 28 #[.val (.ref a0_), .val u0, .val u1, .val u2, .val u3, .val u4, .val u5] [u4, (.ref a0_)])) rfl rfl (hb hby d8_28)
  have Fw106 := ((((F4.other W102 (Or.inr (slot_ne (Or.inr (hw _ (List.mem_of_getElem? (i := 55) rfl))) (Or.inr (hw _ (List.mem_of_getElem? (i := 47) rfl))) (by decide) (t := (.object "java/lang/Integer")) (t' := (.object "java/lang/Integer")) (by decide) (by decide)))).other W103 (Or.inr (slot_ne (Or.inr (hw _ (List.mem_of_getElem? (i := 55) rfl))) (Or.inr (hw _ (List.mem_of_getElem? (i := 49) rfl))) (by decide) (t := (.object "java/lang/Integer")) (t' := (.object "com/example/roomwire/roomwire/core/Status")) (by decide) (by decide)))).other W104 (Or.inr (slot_ne (Or.inr (hw _ (List.mem_of_getElem? (i := 55) rfl))) (Or.inr (hw _ (List.mem_of_getElem? (i := 51) rfl))) (by decide) (t := (.object "java/lang/Integer")) (t' := (.object "com/example/roomwire/roomwire/core/Status")) (by decide) (by decide)))).other W105 (Or.inr (slot_ne (Or.inr (hw _ (List.mem_of_getElem? (i := 55) rfl))) (Or.inr (hw _ (List.mem_of_getElem? (i := 53) rfl))) (by decide) (t := (.object "java/lang/Integer")) (t' := (.object "com/example/roomwire/roomwire/core/Status")) (by decide) (by decide)))).same W106
  have O106 := O105.wr W106 g1
  have N106 := Fr.snoc X106 N105 g1
  have K106' : Keep h0 h106 ([a0_] : List Addr) := K105'.wr W106 (Or.inl (List.mem_of_getElem? (i := 0) rfl))
  refine own_go (B := T106.setTop (mkF m 31 #[.val (.ref a0_), .val u0, .val u1, .val u2, .val u3, .val u4, .val u5] [])) (st106) ?_
  refine own_go (B := T106.setTop (mkF m 32 #[.val (.ref a0_), .val u0, .val u1, .val u2, .val u3, .val u4, .val u5] [(.ref a0_)])) (fun _ k => XS.aloadN X106.here hx rfl (hb hby d8_31) rfl rfl k) ?_
  refine own_go (B := T106.setTop (mkF m 34 #[.val (.ref a0_), .val u0, .val u1, .val u2, .val u3, .val u4, .val u5] [u5, (.ref a0_)])) (fun _ k => XS.aload X106.here hx rfl (hb hby d8_32) rfl hu5 k) ?_
  obtain ⟨T107, h107, X107, e107, W107, st107⟩ := putF X106 hx hZ hown (host := "") (Or.inl (hw _ (List.mem_of_getElem? (i := 56) rfl))) Via.refl e106 (((((F5.other W102 (Or.inr (slot_ne (Or.inr (hw _ (List.mem_of_getElem? (i := 57) rfl))) (Or.inr (hw _ (List.mem_of_getElem? (i := 47) rfl))) (by decide) (t := (.object "java/lang/Integer")) (t' := (.object "java/lang/Integer")) (by decide) (by decide)))).other W103 (Or.inr (slot_ne (Or.inr (hw _ (List.mem_of_getElem? (i := 57) rfl))) (Or.inr (hw _ (List.mem_of_getElem? (i := 49) rfl))) (by decide) (t := (.object "java/lang/Integer")) (t' := (.object "com/example/roomwire/roomwire/core/Status")) (by decide) (by decide)))).other W104 (Or.inr (slot_ne (Or.inr (hw _ (List.mem_of_getElem? (i := 57) rfl))) (Or.inr (hw _ (List.mem_of_getElem? (i := 51) rfl))) (by decide) (t := (.object "java/lang/Integer")) (t' := (.object "com/example/roomwire/roomwire/core/Status")) (by decide) (by decide)))).other W105 (Or.inr (slot_ne (Or.inr (hw _ (List.mem_of_getElem? (i := 57) rfl))) (Or.inr (hw _ (List.mem_of_getElem? (i := 53) rfl))) (by decide) (t := (.object "java/lang/Integer")) (t' := (.object "com/example/roomwire/roomwire/core/Status")) (by decide) (by decide)))).other W106 (Or.inr (slot_ne (Or.inr (hw _ (List.mem_of_getElem? (i := 57) rfl))) (Or.inr (hw _ (List.mem_of_getElem? (i := 55) rfl))) (by decide) (t := (.object "java/lang/Integer")) (t' := (.object "java/lang/Integer")) (by decide) (by decide)))) (((((E1.wr W102).wr W103).wr W104).wr W105).wr W106) (Or.inr ⟨(hw _ (List.mem_of_getElem? (i := 57) rfl)), rfl, hnm⟩) (hw _ (List.mem_of_getElem? (i := 1) rfl)) (ty := (.object "java/lang/Integer")) (by decide) rfl (own_fits hu5 rfl) (g := (mkF m 34 #[.val (.ref a0_), .val u0, .val u1, .val u2, .val u3, .val u4, .val u5] [u5, (.ref a0_)])) rfl rfl (hb hby d8_34)
  have Fw107 := (((((F5.other W102 (Or.inr (slot_ne (Or.inr (hw _ (List.mem_of_getElem? (i := 57) rfl))) (Or.inr (hw _ (List.mem_of_getElem? (i := 47) rfl))) (by decide) (t := (.object "java/lang/Integer")) (t' := (.object "java/lang/Integer")) (by decide) (by decide)))).other W103 (Or.inr (slot_ne (Or.inr (hw _ (List.mem_of_getElem? (i := 57) rfl))) (Or.inr (hw _ (List.mem_of_getElem? (i := 49) rfl))) (by decide) (t := (.object "java/lang/Integer")) (t' := (.object "com/example/roomwire/roomwire/core/Status")) (by decide) (by decide)))).other W104 (Or.inr (slot_ne (Or.inr (hw _ (List.mem_of_getElem? (i := 57) rfl))) (Or.inr (hw _ (List.mem_of_getElem? (i := 51) rfl))) (by decide) (t := (.object "java/lang/Integer")) (t' := (.object "com/example/roomwire/roomwire/core/Status")) (by decide) (by decide)))).other W105 (Or.inr (slot_ne (Or.inr (hw _ (List.mem_of_getElem? (i := 57) rfl))) (Or.inr (hw _ (List.mem_of_getElem? (i := 53) rfl))) (by decide) (t := (.object "java/lang/Integer")) (t' := (.object "com/example/roomwire/roomwire/core/Status")) (by decide) (by decide)))).other W106 (Or.inr (slot_ne (Or.inr (hw _ (List.mem_of_getElem? (i := 57) rfl))) (Or.inr (hw _ (List.mem_of_getElem? (i := 55) rfl))) (by decide) (t := (.object "java/lang/Integer")) (t' := (.object "java/lang/Integer")) (by decide) (by decide)))).same W107
  have O107 := O106.wr W107 g1
  have N107 := Fr.snoc X107 N106 g1
  have K107' : Keep h0 h107 ([a0_] : List Addr) := K106'.wr W107 (Or.inl (List.mem_of_getElem? (i := 0) rfl))
  refine own_go (B := T107.setTop (mkF m 37 #[.val (.ref a0_), .val u0, .val u1, .val u2, .val u3, .val u4, .val u5] [])) (st107) ?_
  obtain ⟨fs, hr, hrun, hended, hW, hsame⟩ := X107.leave (v := none) (fun _ => rfl)
  refine ⟨_, _, X107.returnOut hx Bd.returns (hb hby d8_37) hr, hrun, hended, _, _, rfl, ?_, ⟨_, rfl⟩, hW, hsame.mono (by decide) (by decide)⟩
  show Q_rm8 Z wO wC wI cB a0_ _ _ _ _ _ _ h0 n0 _ T107.heap _
  rw [e107]
  exact ⟨rfl, N107, K107', (((((Fw102.other W103 (Or.inr (slot_ne (Or.inr (hw _ (List.mem_of_getElem? (i := 47) rfl))) (Or.inr (hw _ (List.mem_of_getElem? (i := 49) rfl))) (by decide) (t := (.object "java/lang/Integer")) (t' := (.object "com/example/roomwire/roomwire/core/Status")) (by decide) (by decide)))).other W104 (Or.inr (slot_ne (Or.inr (hw _ (List.mem_of_getElem? (i := 47) rfl))) (Or.inr (hw _ (List.mem_of_getElem? (i := 51) rfl))) (by decide) (t := (.object "java/lang/Integer")) (t' := (.object "com/example/roomwire/roomwire/core/Status")) (by decide) (by decide)))).other W105 (Or.inr (slot_ne (Or.inr (hw _ (List.mem_of_getElem? (i := 47) rfl))) (Or.inr (hw _ (List.mem_of_getElem? (i := 53) rfl))) (by decide) (t := (.object "java/lang/Integer")) (t' := (.object "com/example/roomwire/roomwire/core/Status")) (by decide) (by decide)))).other W106 (Or.inr (slot_ne (Or.inr (hw _ (List.mem_of_getElem? (i := 47) rfl))) (Or.inr (hw _ (List.mem_of_getElem? (i := 55) rfl))) (by decide) (t := (.object "java/lang/Integer")) (t' := (.object "java/lang/Integer")) (by decide) (by decide)))).other W107 (Or.inr (slot_ne (Or.inr (hw _ (List.mem_of_getElem? (i := 47) rfl))) (Or.inr (hw _ (List.mem_of_getElem? (i := 57) rfl))) (by decide) (t := (.object "java/lang/Integer")) (t' := (.object "java/lang/Integer")) (by decide) (by decide)))), ((((Fw103.other W104 (Or.inr (slot_ne (Or.inr (hw _ (List.mem_of_getElem? (i := 49) rfl))) (Or.inr (hw _ (List.mem_of_getElem? (i := 51) rfl))) (by decide) (t := (.object "com/example/roomwire/roomwire/core/Status")) (t' := (.object "com/example/roomwire/roomwire/core/Status")) (by decide) (by decide)))).other W105 (Or.inr (slot_ne (Or.inr (hw _ (List.mem_of_getElem? (i := 49) rfl))) (Or.inr (hw _ (List.mem_of_getElem? (i := 53) rfl))) (by decide) (t := (.object "com/example/roomwire/roomwire/core/Status")) (t' := (.object "com/example/roomwire/roomwire/core/Status")) (by decide) (by decide)))).other W106 (Or.inr (slot_ne (Or.inr (hw _ (List.mem_of_getElem? (i := 49) rfl))) (Or.inr (hw _ (List.mem_of_getElem? (i := 55) rfl))) (by decide) (t := (.object "com/example/roomwire/roomwire/core/Status")) (t' := (.object "java/lang/Integer")) (by decide) (by decide)))).other W107 (Or.inr (slot_ne (Or.inr (hw _ (List.mem_of_getElem? (i := 49) rfl))) (Or.inr (hw _ (List.mem_of_getElem? (i := 57) rfl))) (by decide) (t := (.object "com/example/roomwire/roomwire/core/Status")) (t' := (.object "java/lang/Integer")) (by decide) (by decide)))), (((Fw104.other W105 (Or.inr (slot_ne (Or.inr (hw _ (List.mem_of_getElem? (i := 51) rfl))) (Or.inr (hw _ (List.mem_of_getElem? (i := 53) rfl))) (by decide) (t := (.object "com/example/roomwire/roomwire/core/Status")) (t' := (.object "com/example/roomwire/roomwire/core/Status")) (by decide) (by decide)))).other W106 (Or.inr (slot_ne (Or.inr (hw _ (List.mem_of_getElem? (i := 51) rfl))) (Or.inr (hw _ (List.mem_of_getElem? (i := 55) rfl))) (by decide) (t := (.object "com/example/roomwire/roomwire/core/Status")) (t' := (.object "java/lang/Integer")) (by decide) (by decide)))).other W107 (Or.inr (slot_ne (Or.inr (hw _ (List.mem_of_getElem? (i := 51) rfl))) (Or.inr (hw _ (List.mem_of_getElem? (i := 57) rfl))) (by decide) (t := (.object "com/example/roomwire/roomwire/core/Status")) (t' := (.object "java/lang/Integer")) (by decide) (by decide)))), ((Fw105.other W106 (Or.inr (slot_ne (Or.inr (hw _ (List.mem_of_getElem? (i := 53) rfl))) (Or.inr (hw _ (List.mem_of_getElem? (i := 55) rfl))) (by decide) (t := (.object "com/example/roomwire/roomwire/core/Status")) (t' := (.object "java/lang/Integer")) (by decide) (by decide)))).other W107 (Or.inr (slot_ne (Or.inr (hw _ (List.mem_of_getElem? (i := 53) rfl))) (Or.inr (hw _ (List.mem_of_getElem? (i := 57) rfl))) (by decide) (t := (.object "com/example/roomwire/roomwire/core/Status")) (t' := (.object "java/lang/Integer")) (by decide) (by decide)))), (Fw106.other W107 (Or.inr (slot_ne (Or.inr (hw _ (List.mem_of_getElem? (i := 55) rfl))) (Or.inr (hw _ (List.mem_of_getElem? (i := 57) rfl))) (by decide) (t := (.object "java/lang/Integer")) (t' := (.object "java/lang/Integer")) (by decide) (by decide)))), Fw107⟩
theorem d11_0 : decode prog_25_method_4_code 0 = .ok (.aload_n 0, 1) := by decide +kernel
theorem d11_1 : decode prog_25_method_4_code 1 = .ok (.ifnull 7, 3) := by decide +kernel
theorem d11_4 : decode prog_25_method_4_code 4 = .ok (.aload_n 0, 1) := by decide +kernel
theorem d11_5 : decode prog_25_method_4_code 5 = .ok (.goto 4, 3) := by decide +kernel
theorem d11_8 : decode prog_25_method_4_code 8 = .ok (.aload_n 1, 1) := by decide +kernel
theorem d11_9 : decode prog_25_method_4_code 9 = .ok (.areturn, 1) := by decide +kernel
theorem ef_rm11 (m : MethodId) (u : Value) (t : Value) (hu : u.isRef = true) (ht : t.isRef = true) : entryFrame m #[u, t] 2 = mkF m 0 #[.val u, .val t] [] := by (rcases Jvm.Free.XT.refc hu with rfl | ⟨_, rfl⟩) <;> (rcases Jvm.Free.XT.refc ht with rfl | ⟨_, rfl⟩) <;> first | (simp [entryFrame, mkF, argsToLocals, Value.category]; done) | rfl
def Q_rm11 (Z : State) (wO : Addr) (wC : Addr) (wI : Addr) (cB : Cell) (u : Value) (t : Value) (h0 : Heap) (n0 : Nat) (v : Option Value) (h : Heap) (L : List Loc) : Prop := v = some (own_pk u t) ∧ Fr n0 L ∧ h = h0
set_option maxRecDepth 65536 in
set_option maxHeartbeats 40000000 in
theorem rm11 (l : Launch) (Z : State) (a0 : Array Value) (hw : ∀ d ∈ tables_1, d.before a0 Z = true) (ws : List Jvm.Cond) (wO : Addr) (wC : Addr) (wI : Addr) (cB : Cell) (G : own_G Z wO wC wI cB) (u : Value) (t : Value) (h0 : Heap) (n0 : Nat) (Z0 : n0 ≤ h0.size) (O0 : Old Z n0 h0) (hu : u.isRef = true) (ht : t.isRef = true) :
    MetFree l (⟨"com/example/roomwire/roomwire/core/NightState", "pick", "(Ljava/lang/Object;Ljava/lang/Object;)Ljava/lang/Object;"⟩ : MethodName) (head1 (Jvm.Cond.code (⟨"com/example/roomwire/roomwire/core/NightState", "pick", "(Ljava/lang/Object;Ljava/lang/Object;)Ljava/lang/Object;"⟩ : MethodName) prog_25_method_4_code 2 (some (.object "java/lang/Object")) :: ws) ({ frames := 0, cells := 0, slots := 0, locals := 0 } : Room)) (fun a U => a = #[u, t] ∧ Z.Warmed39 U.vm ∧ U.heap = h0) (fun _ _ _ _ _ => True) (fun _ U o U' => ∃ v L, o = .returned v ∧ Q_rm11 Z wO wC wI cB u t h0 n0 v U'.heap L ∧ FrameEnd U o U' L ({ frames := 0, cells := 0, slots := 0, locals := 0 } : Room).cells ({ frames := 0, cells := 0, slots := 0, locals := 0 } : Room).slots) := by
  refine MetFree.of_bodySF (plainFor_of_name pn_8) hisR ?_
  intro p e s m args below meth c s₁ Bd hml0 hP hK
  obtain ⟨rfl, hZ, hh⟩ := hP
  have hx := Bd.exec
  have hby := Bd.bytes
  have hml : c.maxLocals = 2 := hml0
  have hown : s.vm.findClass "com/example/roomwire/roomwire/core/NightState" = some m.cls := findClass_of_methodNamed Bd.named
  have hnm := (name_of_methodNamed Bd.named Bd.method).1
  have X0 : Stand p l e ({ frames := 0, cells := 0, slots := 0, locals := 0 } : Room) s m #[u, t] below meth c s₁ [] 0 0 := Stand.of_body Bd
  have e0 : s₁.heap = h0 := by rw [← hh, Bd.state]; rfl
  have N0 := Fr.nil n0
  have K0 := Keep.refl h0 ([] : List Addr)
  have G_ := G
  obtain ⟨S_Status_OPEN, E_wO, S_Status_CLOSED, E_wC, S_Integer_IntegerCache_cache, E_wI, S_Integer_IntegerCache_high, BX, G_end⟩ := G_
  change own_Go p e below _ _
  refine own_go (B := s₁.setTop (mkF m 0 #[.val u, .val t] [])) (fun _ k => castTop (ef_rm11 m u t hu ht) k) ?_
  refine own_go (B := s₁.setTop (mkF m 1 #[.val u, .val t] [u])) (fun _ k => XS.aloadN X0.here hx rfl (hb hby d11_0) rfl hu k) ?_
  by_cases hn1 : u = .null
  · refine own_go (B := s₁.setTop (mkF m 8 #[.val u, .val t] [])) (fun _ k => Jvm.Free.XT.nullYes X0.here hx rfl (pc0 := 1) (pc' := 8) rfl (hb hby d11_1) rfl hn1 (by decide) (by decide) k) ?_
    refine own_go (B := s₁.setTop (mkF m 9 #[.val u, .val t] [t])) (fun _ k => XS.aloadN X0.here hx rfl (hb hby d11_8) rfl ht k) ?_
    obtain ⟨fs, hr, hrun, hended, hW, hsame⟩ := X0.leave (v := some t) (fun h => by rw [Bd.returns] at h; cases h)
    refine ⟨_, _, retOut X0 hx Bd.returns rfl (Or.inr (Or.inr (Or.inr (Or.inr ⟨rfl, rfl, ht⟩)))) (hb hby d11_9) hr, hrun, hended, _, _, rfl, ?_, ⟨_, rfl⟩, hW, hsame.mono (by decide) (by decide)⟩
    show Q_rm11 Z wO wC wI cB _ _ h0 n0 _ s₁.heap _
    rw [e0]
    exact ⟨(by simp [own_pk, hn1]), N0, rfl⟩
  · refine own_go (B := s₁.setTop (mkF m 4 #[.val u, .val t] [])) (fun _ k => Jvm.Free.XT.nullNo X0.here hx rfl (hb hby d11_1) rfl hu hn1 k) ?_
    refine own_go (B := s₁.setTop (mkF m 5 #[.val u, .val t] [u])) (fun _ k => XS.aloadN X0.here hx rfl (hb hby d11_4) rfl hu k) ?_
    refine own_go (B := s₁.setTop (mkF m 9 #[.val u, .val t] [u])) (fun _ k => XS.goto X0.here hx rfl (pc0 := 5) (pc' := 9) rfl (hb hby d11_5) (by decide) (by decide) k) ?_
    obtain ⟨fs, hr, hrun, hended, hW, hsame⟩ := X0.leave (v := some u) (fun h => by rw [Bd.returns] at h; cases h)
    refine ⟨_, _, retOut X0 hx Bd.returns rfl (Or.inr (Or.inr (Or.inr (Or.inr ⟨rfl, rfl, hu⟩)))) (hb hby d11_9) hr, hrun, hended, _, _, rfl, ?_, ⟨_, rfl⟩, hW, hsame.mono (by decide) (by decide)⟩
    show Q_rm11 Z wO wC wI cB _ _ h0 n0 _ s₁.heap _
    rw [e0]
    exact ⟨(by simp [own_pk, hn1]), N0, rfl⟩
theorem pd_4 : parseMethodDescriptor "(Ljava/lang/Object;Ljava/lang/Object;)Ljava/lang/Object;" = some ⟨[(.object "java/lang/Object"), (.object "java/lang/Object")], some (.object "java/lang/Object")⟩ := by decide +kernel
theorem pd_5 : parseMethodDescriptor "(Ljava/lang/Integer;Lcom/example/roomwire/roomwire/core/Status;Lcom/example/roomwire/roomwire/core/Status;Lcom/example/roomwire/roomwire/core/Status;Ljava/lang/Integer;Ljava/lang/Integer;)V" = some ⟨[(.object "java/lang/Integer"), (.object "com/example/roomwire/roomwire/core/Status"), (.object "com/example/roomwire/roomwire/core/Status"), (.object "com/example/roomwire/roomwire/core/Status"), (.object "java/lang/Integer"), (.object "java/lang/Integer")], none⟩ := by decide +kernel
theorem d10_0 : decode prog_25_method_2_code 0 = .ok (.new 8, 3) := by decide +kernel
theorem d10_3 : decode prog_25_method_2_code 3 = .ok (.dup, 1) := by decide +kernel
theorem d10_4 : decode prog_25_method_2_code 4 = .ok (.aload_n 1, 1) := by decide +kernel
theorem d10_5 : decode prog_25_method_2_code 5 = .ok (.getfield 7, 3) := by decide +kernel
theorem d10_8 : decode prog_25_method_2_code 8 = .ok (.aload_n 0, 1) := by decide +kernel
theorem d10_9 : decode prog_25_method_2_code 9 = .ok (.getfield 7, 3) := by decide +kernel
theorem d10_12 : decode prog_25_method_2_code 12 = .ok (.invokestatic 29, 3) := by decide +kernel
theorem d10_15 : decode prog_25_method_2_code 15 = .ok (.checkcast 33, 3) := by decide +kernel
theorem d10_18 : decode prog_25_method_2_code 18 = .ok (.aload_n 1, 1) := by decide +kernel
theorem d10_19 : decode prog_25_method_2_code 19 = .ok (.getfield 13, 3) := by decide +kernel
theorem d10_22 : decode prog_25_method_2_code 22 = .ok (.aload_n 0, 1) := by decide +kernel
theorem d10_23 : decode prog_25_method_2_code 23 = .ok (.getfield 13, 3) := by decide +kernel
theorem d10_26 : decode prog_25_method_2_code 26 = .ok (.invokestatic 29, 3) := by decide +kernel
theorem d10_29 : decode prog_25_method_2_code 29 = .ok (.checkcast 35, 3) := by decide +kernel
theorem d10_32 : decode prog_25_method_2_code 32 = .ok (.aload_n 1, 1) := by decide +kernel
theorem d10_33 : decode prog_25_method_2_code 33 = .ok (.getfield 17, 3) := by decide +kernel
theorem d10_36 : decode prog_25_method_2_code 36 = .ok (.aload_n 0, 1) := by decide +kernel
theorem d10_37 : decode prog_25_method_2_code 37 = .ok (.getfield 17, 3) := by decide +kernel
theorem d10_40 : decode prog_25_method_2_code 40 = .ok (.invokestatic 29, 3) := by decide +kernel
theorem d10_43 : decode prog_25_method_2_code 43 = .ok (.checkcast 35, 3) := by decide +kernel
theorem d10_46 : decode prog_25_method_2_code 46 = .ok (.aload_n 1, 1) := by decide +kernel
theorem d10_47 : decode prog_25_method_2_code 47 = .ok (.getfield 20, 3) := by decide +kernel
theorem d10_50 : decode prog_25_method_2_code 50 = .ok (.aload_n 0, 1) := by decide +kernel
theorem d10_51 : decode prog_25_method_2_code 51 = .ok (.getfield 20, 3) := by decide +kernel
theorem d10_54 : decode prog_25_method_2_code 54 = .ok (.invokestatic 29, 3) := by decide +kernel
theorem d10_57 : decode prog_25_method_2_code 57 = .ok (.checkcast 35, 3) := by decide +kernel
theorem d10_60 : decode prog_25_method_2_code 60 = .ok (.aload_n 1, 1) := by decide +kernel
theorem d10_61 : decode prog_25_method_2_code 61 = .ok (.getfield 23, 3) := by decide +kernel
theorem d10_64 : decode prog_25_method_2_code 64 = .ok (.aload_n 0, 1) := by decide +kernel
theorem d10_65 : decode prog_25_method_2_code 65 = .ok (.getfield 23, 3) := by decide +kernel
theorem d10_68 : decode prog_25_method_2_code 68 = .ok (.invokestatic 29, 3) := by decide +kernel
theorem d10_71 : decode prog_25_method_2_code 71 = .ok (.checkcast 33, 3) := by decide +kernel
theorem d10_74 : decode prog_25_method_2_code 74 = .ok (.aload_n 1, 1) := by decide +kernel
theorem d10_75 : decode prog_25_method_2_code 75 = .ok (.getfield 26, 3) := by decide +kernel
theorem d10_78 : decode prog_25_method_2_code 78 = .ok (.aload_n 0, 1) := by decide +kernel
theorem d10_79 : decode prog_25_method_2_code 79 = .ok (.getfield 26, 3) := by decide +kernel
theorem d10_82 : decode prog_25_method_2_code 82 = .ok (.invokestatic 29, 3) := by decide +kernel
theorem d10_85 : decode prog_25_method_2_code 85 = .ok (.checkcast 33, 3) := by decide +kernel
theorem d10_88 : decode prog_25_method_2_code 88 = .ok (.invokespecial 37, 3) := by decide +kernel
theorem d10_91 : decode prog_25_method_2_code 91 = .ok (.areturn, 1) := by decide +kernel
theorem ef_rm10 (m : MethodId) (a0_ : Addr) (a1_ : Addr) : entryFrame m #[(.ref a0_), (.ref a1_)] 2 = mkF m 0 #[.val (.ref a0_), .val (.ref a1_)] [] := by first | (simp [entryFrame, mkF, argsToLocals, Value.category]; done) | rfl
def Q_rm10 (Z : State) (wO : Addr) (wC : Addr) (wI : Addr) (cB : Cell) (a0_ : Addr) (a1_ : Addr) (u0 : Value) (u1 : Value) (u2 : Value) (u3 : Value) (u4 : Value) (u5 : Value) (t0 : Value) (t1 : Value) (t2 : Value) (t3 : Value) (t4 : Value) (t5 : Value) (h0 : Heap) (n0 : Nat) (v : Option Value) (h : Heap) (L : List Loc) : Prop := ∃ (b : Addr), v = some (.ref b) ∧ Fr n0 L ∧ Keep h0 h [] ∧ h0.size ≤ b ∧ Exa Z h b "com/example/roomwire/roomwire/core/NightState" ∧ Fld Z h b "com/example/roomwire/roomwire/core/NightState" "bookingLimit" "Ljava/lang/Integer;" (own_pk t0 u0) ∧ Fld Z h b "com/example/roomwire/roomwire/core/NightState" "master" "Lcom/example/roomwire/roomwire/core/Status;" (own_pk t1 u1) ∧ Fld Z h b "com/example/roomwire/roomwire/core/NightState" "arrival" "Lcom/example/roomwire/roomwire/core/Status;" (own_pk t2 u2) ∧ Fld Z h b "com/example/roomwire/roomwire/core/NightState" "departure" "Lcom/example/roomwire/roomwire/core/Status;" (own_pk t3 u3) ∧ Fld Z h b "com/example/roomwire/roomwire/core/NightState" "minStay" "Ljava/lang/Integer;" (own_pk t4 u4) ∧ Fld Z h b "com/example/roomwire/roomwire/core/NightState" "maxStay" "Ljava/lang/Integer;" (own_pk t5 u5)
set_option maxRecDepth 65536 in
set_option maxHeartbeats 40000000 in
theorem rm10 (l : Launch) (Z : State) (a0 : Array Value) (hw : ∀ d ∈ tables_1, d.before a0 Z = true) (ws : List Jvm.Cond) (wO : Addr) (wC : Addr) (wI : Addr) (cB : Cell) (G : own_G Z wO wC wI cB) (a0_ : Addr) (a1_ : Addr) (u0 : Value) (u1 : Value) (u2 : Value) (u3 : Value) (u4 : Value) (u5 : Value) (t0 : Value) (t1 : Value) (t2 : Value) (t3 : Value) (t4 : Value) (t5 : Value) (h0 : Heap) (n0 : Nat) (Z0 : n0 ≤ h0.size) (O0 : Old Z n0 h0) (hu0 : u0.isRef = true) (hu1 : u1.isRef = true) (hu2 : u2.isRef = true) (hu3 : u3.isRef = true) (hu4 : u4.isRef = true) (hu5 : u5.isRef = true) (ht0 : t0.isRef = true) (ht1 : t1.isRef = true) (ht2 : t2.isRef = true) (ht3 : t3.isRef = true) (ht4 : t4.isRef = true) (ht5 : t5.isRef = true) (Fu0 : Fld Z h0 a0_ "com/example/roomwire/roomwire/core/NightState" "bookingLimit" "Ljava/lang/Integer;" u0) (Fu1 : Fld Z h0 a0_ "com/example/roomwire/roomwire/core/NightState" "master" "Lcom/example/roomwire/roomwire/core/Status;" u1) (Fu2 : Fld Z h0 a0_ "com/example/roomwire/roomwire/core/NightState" "arrival" "Lcom/example/roomwire/roomwire/core/Status;" u2) (Fu3 : Fld Z h0 a0_ "com/example/roomwire/roomwire/core/NightState" "departure" "Lcom/example/roomwire/roomwire/core/Status;" u3) (Fu4 : Fld Z h0 a0_ "com/example/roomwire/roomwire/core/NightState" "minStay" "Ljava/lang/Integer;" u4) (Fu5 : Fld Z h0 a0_ "com/example/roomwire/roomwire/core/NightState" "maxStay" "Ljava/lang/Integer;" u5) (Ft0 : Fld Z h0 a1_ "com/example/roomwire/roomwire/core/NightState" "bookingLimit" "Ljava/lang/Integer;" t0) (Ft1 : Fld Z h0 a1_ "com/example/roomwire/roomwire/core/NightState" "master" "Lcom/example/roomwire/roomwire/core/Status;" t1) (Ft2 : Fld Z h0 a1_ "com/example/roomwire/roomwire/core/NightState" "arrival" "Lcom/example/roomwire/roomwire/core/Status;" t2) (Ft3 : Fld Z h0 a1_ "com/example/roomwire/roomwire/core/NightState" "departure" "Lcom/example/roomwire/roomwire/core/Status;" t3) (Ft4 : Fld Z h0 a1_ "com/example/roomwire/roomwire/core/NightState" "minStay" "Ljava/lang/Integer;" t4) (Ft5 : Fld Z h0 a1_ "com/example/roomwire/roomwire/core/NightState" "maxStay" "Ljava/lang/Integer;" t5) (ku0 : own_ok Z h0 u0 "java/lang/Integer") (ku1 : own_ok Z h0 u1 "com/example/roomwire/roomwire/core/Status") (ku2 : own_ok Z h0 u2 "com/example/roomwire/roomwire/core/Status") (ku3 : own_ok Z h0 u3 "com/example/roomwire/roomwire/core/Status") (ku4 : own_ok Z h0 u4 "java/lang/Integer") (ku5 : own_ok Z h0 u5 "java/lang/Integer") (kt0 : own_ok Z h0 t0 "java/lang/Integer") (kt1 : own_ok Z h0 t1 "com/example/roomwire/roomwire/core/Status") (kt2 : own_ok Z h0 t2 "com/example/roomwire/roomwire/core/Status") (kt3 : own_ok Z h0 t3 "com/example/roomwire/roomwire/core/Status") (kt4 : own_ok Z h0 t4 "java/lang/Integer") (kt5 : own_ok Z h0 t5 "java/lang/Integer") :
    MetFree l (⟨"com/example/roomwire/roomwire/core/NightState", "overlay", "(Lcom/example/roomwire/roomwire/core/NightState;)Lcom/example/roomwire/roomwire/core/NightState;"⟩ : MethodName) (head1 (Jvm.Cond.code (⟨"com/example/roomwire/roomwire/core/NightState", "overlay", "(Lcom/example/roomwire/roomwire/core/NightState;)Lcom/example/roomwire/roomwire/core/NightState;"⟩ : MethodName) prog_25_method_2_code 2 (some (.object "com/example/roomwire/roomwire/core/NightState")) :: ws) ({ frames := 3, cells := 1, slots := 6, locals := 43 } : Room)) (fun a U => a = #[(.ref a0_), (.ref a1_)] ∧ Z.Warmed39 U.vm ∧ U.heap = h0) (fun _ _ _ _ _ => True) (fun _ U o U' => ∃ v L, o = .returned v ∧ Q_rm10 Z wO wC wI cB a0_ a1_ u0 u1 u2 u3 u4 u5 t0 t1 t2 t3 t4 t5 h0 n0 v U'.heap L ∧ FrameEnd U o U' L ({ frames := 3, cells := 1, slots := 6, locals := 43 } : Room).cells ({ frames := 3, cells := 1, slots := 6, locals := 43 } : Room).slots) := by
  refine MetFree.of_bodySF (plainFor_of_name pn_8) hisR ?_
  intro p e s m args below meth c s₁ Bd hml0 hP hK
  obtain ⟨rfl, hZ, hh⟩ := hP
  have hx := Bd.exec
  have hby := Bd.bytes
  have hml : c.maxLocals = 2 := hml0
  have hown : s.vm.findClass "com/example/roomwire/roomwire/core/NightState" = some m.cls := findClass_of_methodNamed Bd.named
  have hnm := (name_of_methodNamed Bd.named Bd.method).1
  have X0 : Stand p l e ({ frames := 3, cells := 1, slots := 6, locals := 43 } : Room) s m #[(.ref a0_), (.ref a1_)] below meth c s₁ [] 0 0 := Stand.of_body Bd
  have e0 : s₁.heap = h0 := by rw [← hh, Bd.state]; rfl
  have N0 := Fr.nil n0
  have K0 := Keep.refl h0 ([] : List Addr)
  have G_ := G
  obtain ⟨S_Status_OPEN, E_wO, S_Status_CLOSED, E_wC, S_Integer_IntegerCache_cache, E_wI, S_Integer_IntegerCache_high, BX, G_end⟩ := G_
  change own_Go p e below _ _
  refine own_go (B := s₁.setTop (mkF m 0 #[.val (.ref a0_), .val (.ref a1_)] [])) (fun _ k => castTop (ef_rm10 m a0_ a1_) k) ?_
  obtain ⟨T101, h101, X101, e101, E101, A101, D101, -, st101⟩ := newO X0 hx hZ hown (hw _ (List.mem_of_getElem? (i := 63) rfl)) (hw _ (List.mem_of_getElem? (i := 1) rfl)) (hw _ (List.mem_of_getElem? (i := 2) rfl)) e0 (g := (mkF m 0 #[.val (.ref a0_), .val (.ref a1_)] [])) rfl (hb hby d10_0) (by decide) (by decide)
  obtain ⟨b101, g101⟩ : ∃ z, z = h0.size := ⟨_, rfl⟩
  rw [← g101] at A101 D101 st101
  have g_b101 : n0 ≤ b101 := Nat.le_trans (Nat.le_trans Z0 K0.1) (Nat.le_of_eq g101.symm)
  have sz_b101 : h0.size ≤ b101 := Nat.le_trans K0.1 (Nat.le_of_eq g101.symm)
  have ne101_1 : a0_ ≠ b101 := Nat.ne_of_lt (Nat.lt_of_lt_of_le Fu0.lt (Nat.le_of_eq g101.symm))
  have ne101_2 : a1_ ≠ b101 := Nat.ne_of_lt (Nat.lt_of_lt_of_le Ft0.lt (Nat.le_of_eq g101.symm))
  have O101 := O0.ext E101
  have K101' : Keep h0 h101 ([] : List Addr) := K0.ext E101
  have F_bookingLimit_b101 : Fld Z h101 b101 "com/example/roomwire/roomwire/core/NightState" "bookingLimit" "Ljava/lang/Integer;" .null := D101 (Or.inr (hw _ (List.mem_of_getElem? (i := 47) rfl))) (ty := (.object "java/lang/Integer")) (by decide)
  have F_master_b101 : Fld Z h101 b101 "com/example/roomwire/roomwire/core/NightState" "master" "Lcom/example/roomwire/roomwire/core/Status;" .null := D101 (Or.inr (hw _ (List.mem_of_getElem? (i := 49) rfl))) (ty := (.object "com/example/roomwire/roomwire/core/Status")) (by decide)
  have F_arrival_b101 : Fld Z h101 b101 "com/example/roomwire/roomwire/core/NightState" "arrival" "Lcom/example/roomwire/roomwire/core/Status;" .null := D101 (Or.inr (hw _ (List.mem_of_getElem? (i := 51) rfl))) (ty := (.object "com/example/roomwire/roomwire/core/Status")) (by decide)
  have F_departure_b101 : Fld Z h101 b101 "com/example/roomwire/roomwire/core/NightState" "departure" "Lcom/example/roomwire/roomwire/core/Status;" .null := D101 (Or.inr (hw _ (List.mem_of_getElem? (i := 53) rfl))) (ty := (.object "com/example/roomwire/roomwire/core/Status")) (by decide)
  have F_minStay_b101 : Fld Z h101 b101 "com/example/roomwire/roomwire/core/NightState" "minStay" "Ljava/lang/Integer;" .null := D101 (Or.inr (hw _ (List.mem_of_getElem? (i := 55) rfl))) (ty := (.object "java/lang/Integer")) (by decide)
  have F_maxStay_b101 : Fld Z h101 b101 "com/example/roomwire/roomwire/core/NightState" "maxStay" "Ljava/lang/Integer;" .null := D101 (Or.inr (hw _ (List.mem_of_getElem? (i := 57) rfl))) (ty := (.object "java/lang/Integer")) (by decide)
  refine own_go (B := T101.setTop (mkF m 3 #[.val (.ref a0_), .val (.ref a1_)] [(.ref b101)])) (st101) ?_
  refine own_go (B := T101.setTop (mkF m 4 #[.val (.ref a0_), .val (.ref a1_)] [(.ref b101), (.ref b101)])) (fun _ k => XS.dup X101.here hx rfl (hb hby d10_3) rfl rfl k) ?_
  refine own_go (B := T101.setTop (mkF m 5 #[.val (.ref a0_), .val (.ref a1_)] [(.ref a1_), (.ref b101), (.ref b101)])) (fun _ k => XS.aloadN X101.here hx rfl (hb hby d10_4) rfl rfl k) ?_
  obtain ⟨T102, X102, e102, st102⟩ := getF X101 hx hZ hown (host := "") (Or.inl (hw _ (List.mem_of_getElem? (i := 46) rfl))) Via.refl e101 (Ft0.ext E101) (g := (mkF m 5 #[.val (.ref a0_), .val (.ref a1_)] [(.ref a1_), (.ref b101), (.ref b101)])) rfl rfl (hb hby d10_5)
  refine own_go (B := T102.setTop (mkF m 8 #[.val (.ref a0_), .val (.ref a1_)] [t0, (.ref b101), (.ref b101)])) (st102) ?_
  refine own_go (B := T102.setTop (mkF m 9 #[.val (.ref a0_), .val (.ref a1_)] [(.ref a0_), t0, (.ref b101), (.ref b101)])) (fun _ k => XS.aloadN X102.here hx rfl (hb hby d10_8) rfl rfl k) ?_
  obtain ⟨T103, X103, e103, st103⟩ := getF X102 hx hZ hown (host := "") (Or.inl (hw _ (List.mem_of_getElem? (i := 46) rfl))) Via.refl e102 (Fu0.ext E101) (g := (mkF m 9 #[.val (.ref a0_), .val (.ref a1_)] [(.ref a0_), t0, (.ref b101), (.ref b101)])) rfl rfl (hb hby d10_9)
  refine own_go (B := T103.setTop (mkF m 12 #[.val (.ref a0_), .val (.ref a1_)] [u0, t0, (.ref b101), (.ref b101)])) (st103) ?_
  obtain ⟨_, _, ⟨T104, L104, k104, n104⟩, -, X104, ⟨Lc104, hQ104, l104, y104, z104⟩, st104⟩ := Jvm.LawKit.callS X103 hx (y := (⟨"com/example/roomwire/roomwire/core/NightState", "pick", "(Ljava/lang/Object;Ljava/lang/Object;)Ljava/lang/Object;"⟩ : MethodName)) hown (mvT hZ (hw _ (List.mem_of_getElem? (i := 64) rfl))) (mvT hZ (hw _ (List.mem_of_getElem? (i := 65) rfl))) (mvT hZ (hw _ (List.mem_of_getElem? (i := 2) rfl))) (mvT hZ (hw _ (List.mem_of_getElem? (i := 66) rfl))) (by decide) (backOf (W := 2) (rm11 l Z a0 hw [] wO wC wI cB G t0 u0 h101 n0 (Nat.le_trans Z0 K101'.1) O101 ht0 hu0) hZ (hw _ (List.mem_of_getElem? (i := 66) rfl)) (hw _ (List.mem_of_getElem? (i := 2) rfl)) (by decide) (by decide)) (g := (mkF m 12 #[.val (.ref a0_), .val (.ref a1_)] [u0, t0, (.ref b101), (.ref b101)])) rfl (by rw [hml]; rfl) (argsL := [t0, u0]) (rest := [(.ref b101), (.ref b101)]) (lenOf pd_4 rfl) rfl (by show 2 * 0 + _ ≤ _; exact Nat.le_of_eq rfl) (hb hby d10_12) (fun _ _ => ⟨rfl, e103, (by decide : 1 + 0 ≤ 1), (by decide : 6 + 0 ≤ 6)⟩)
  dsimp only [Pt.U, Pt.locs, Pt.cells, Pt.slots] at X104 l104 y104 z104 st104 hQ104
  rw [l104, y104, z104] at X104
  obtain ⟨rfl, N104q, K104⟩ := hQ104
  have N104 := Fr.app N0 N104q
  have e104 : T104.heap = h101 := K104
  refine own_go (B := T104.setTop (mkF m 15 #[.val (.ref a0_), .val (.ref a1_)] [(own_pk t0 u0), (.ref b101), (.ref b101)])) (st104) ?_
  obtain ⟨T105, X105, e105, st105⟩ := own_castV X104 hx hZ hown (hw _ (List.mem_of_getElem? (i := 67) rfl)) e104 (own_ok_pk (own_ok_ext E101 kt0) (own_ok_ext E101 ku0)) (g := (mkF m 15 #[.val (.ref a0_), .val (.ref a1_)] [(own_pk t0 u0), (.ref b101), (.ref b101)])) rfl rfl (hb hby d10_15)
  refine own_go (B := T105.setTop (mkF m 18 #[.val (.ref a0_), .val (.ref a1_)] [(own_pk t0 u0), (.ref b101), (.ref b101)])) (st105) ?_
  refine own_go (B := T105.setTop (mkF m 19 #[.val (.ref a0_), .val (.ref a1_)] [(.ref a1_), (own_pk t0 u0), (.ref b101), (.ref b101)])) (fun _ k => XS.aloadN X105.here hx rfl (hb hby d10_18) rfl rfl k) ?_
  obtain ⟨T106, X106, e106, st106⟩ := getF X105 hx hZ hown (host := "") (Or.inl (hw _ (List.mem_of_getElem? (i := 48) rfl))) Via.refl e105 (Ft1.ext E101) (g := (mkF m 19 #[.val (.ref a0_), .val (.ref a1_)] [(.ref a1_), (own_pk t0 u0), (.ref b101), (.ref b101)])) rfl rfl (hb hby d10_19)
  refine own_go (B := T106.setTop (mkF m 22 #[.val (.ref a0_), .val (.ref a1_)] [t1, (own_pk t0 u0), (.ref b101), (.ref b101)])) (st106) ?_
  refine own_go (B := T106.setTop (mkF m 23 #[.val (.ref a0_), .val (.ref a1_)] [(.ref a0_), t1, (own_pk t0 u0), (.ref b101), (.ref b101)])) (fun _ k => XS.aloadN X106.here hx rfl (hb hby d10_22) rfl rfl k) ?_
  obtain ⟨T107, X107, e107, st107⟩ := getF X106 hx hZ hown (host := "") (Or.inl (hw _ (List.mem_of_getElem? (i := 48) rfl))) Via.refl e106 (Fu1.ext E101) (g := (mkF m 23 #[.val (.ref a0_), .val (.ref a1_)] [(.ref a0_), t1, (own_pk t0 u0), (.ref b101), (.ref b101)])) rfl rfl (hb hby d10_23)
  refine own_go (B := T107.setTop (mkF m 26 #[.val (.ref a0_), .val (.ref a1_)] [u1, t1, (own_pk t0 u0), (.ref b101), (.ref b101)])) (st107) ?_
  obtain ⟨_, _, ⟨T108, L108, k108, n108⟩, -, X108, ⟨Lc108, hQ108, l108, y108, z108⟩, st108⟩ := Jvm.LawKit.callS X107 hx (y := (⟨"com/example/roomwire/roomwire/core/NightState", "pick", "(Ljava/lang/Object;Ljava/lang/Object;)Ljava/lang/Object;"⟩ : MethodName)) hown (mvT hZ (hw _ (List.mem_of_getElem? (i := 64) rfl))) (mvT hZ (hw _ (List.mem_of_getElem? (i := 65) rfl))) (mvT hZ (hw _ (List.mem_of_getElem? (i := 2) rfl))) (mvT hZ (hw _ (List.mem_of_getElem? (i := 66) rfl))) (by decide) (backOf (W := 3) (rm11 l Z a0 hw [] wO wC wI cB G t1 u1 h101 n0 (Nat.le_trans Z0 K101'.1) O101 ht1 hu1) hZ (hw _ (List.mem_of_getElem? (i := 66) rfl)) (hw _ (List.mem_of_getElem? (i := 2) rfl)) (by decide) (by decide)) (g := (mkF m 26 #[.val (.ref a0_), .val (.ref a1_)] [u1, t1, (own_pk t0 u0), (.ref b101), (.ref b101)])) rfl (by rw [hml]; rfl) (argsL := [t1, u1]) (rest := [(own_pk t0 u0), (.ref b101), (.ref b101)]) (lenOf pd_4 rfl) rfl (by show 2 * 0 + _ ≤ _; exact own_cW (own_cK (own_cK (own_cK own_c0 rfl) rfl) (Jvm.Free.XT.cat1 (own_pk_ref ht0 hu0)))) (hb hby d10_26) (fun _ _ => ⟨rfl, e107, (by decide : 1 + 0 ≤ 1), (by decide : 6 + 0 ≤ 6)⟩)
  dsimp only [Pt.U, Pt.locs, Pt.cells, Pt.slots] at X108 l108 y108 z108 st108 hQ108
  rw [l108, y108, z108] at X108
  obtain ⟨rfl, N108q, K108⟩ := hQ108
  have N108 := Fr.app N104 N108q
  have e108 : T108.heap = h101 := K108
  refine own_go (B := T108.setTop (mkF m 29 #[.val (.ref a0_), .val (.ref a1_)] [(own_pk t1 u1), (own_pk t0 u0), (.ref b101), (.ref b101)])) (st108) ?_
  obtain ⟨T109, X109, e109, st109⟩ := own_castV X108 hx hZ hown (hw _ (List.mem_of_getElem? (i := 113) rfl)) e108 (own_ok_pk (own_ok_ext E101 kt1) (own_ok_ext E101 ku1)) (g := (mkF m 29 #[.val (.ref a0_), .val (.ref a1_)] [(own_pk t1 u1), (own_pk t0 u0), (.ref b101), (.ref b101)])) rfl rfl (hb hby d10_29)
  refine own_go (B := T109.setTop (mkF m 32 #[.val (.ref a0_), .val (.ref a1_)] [(own_pk t1 u1), (own_pk t0 u0), (.ref b101), (.ref b101)])) (st109) ?_
  refine own_go (B := T109.setTop (mkF m 33 #[.val (.ref a0_), .val (.ref a1_)] [(.ref a1_), (own_pk t1 u1), (own_pk t0 u0), (.ref b101), (.ref b101)])) (fun _ k => XS.aloadN X109.here hx rfl (hb hby d10_32) rfl rfl k) ?_
  obtain ⟨T110, X110, e110, st110⟩ := getF X109 hx hZ hown (host := "") (Or.inl (hw _ (List.mem_of_getElem? (i := 50) rfl))) Via.refl e109 (Ft2.ext E101) (g := (mkF m 33 #[.val (.ref a0_), .val (.ref a1_)] [(.ref a1_), (own_pk t1 u1), (own_pk t0 u0), (.ref b101), (.ref b101)])) rfl rfl (hb hby d10_33)
  refine own_go (B := T110.setTop (mkF m 36 #[.val (.ref a0_), .val (.ref a1_)] [t2, (own_pk t1 u1), (own_pk t0 u0), (.ref b101), (.ref b101)])) (st110) ?_
  refine own_go (B := T110.setTop (mkF m 37 #[.val (.ref a0_), .val (.ref a1_)] [(.ref a0_), t2, (own_pk t1 u1), (own_pk t0 u0), (.ref b101), (.ref b101)])) (fun _ k => XS.aloadN X110.here hx rfl (hb hby d10_36) rfl rfl k) ?_
  obtain ⟨T111, X111, e111, st111⟩ := getF X110 hx hZ hown (host := "") (Or.inl (hw _ (List.mem_of_getElem? (i := 50) rfl))) Via.refl e110 (Fu2.ext E101) (g := (mkF m 37 #[.val (.ref a0_), .val (.ref a1_)] [(.ref a0_), t2, (own_pk t1 u1), (own_pk t0 u0), (.ref b101), (.ref b101)])) rfl rfl (hb hby d10_37)
  refine own_go (B := T111.setTop (mkF m 40 #[.val (.ref a0_), .val (.ref a1_)] [u2, t2, (own_pk t1 u1), (own_pk t0 u0), (.ref b101), (.ref b101)])) (st111) ?_
  obtain ⟨_, _, ⟨T112, L112, k112, n112⟩, -, X112, ⟨Lc112, hQ112, l112, y112, z112⟩, st112⟩ := Jvm.LawKit.callS X111 hx (y := (⟨"com/example/roomwire/roomwire/core/NightState", "pick", "(Ljava/lang/Object;Ljava/lang/Object;)Ljava/lang/Object;"⟩ : MethodName)) hown (mvT hZ (hw _ (List.mem_of_getElem? (i := 64) rfl))) (mvT hZ (hw _ (List.mem_of_getElem? (i := 65) rfl))) (mvT hZ (hw _ (List.mem_of_getElem? (i := 2) rfl))) (mvT hZ (hw _ (List.mem_of_getElem? (i := 66) rfl))) (by decide) (backOf (W := 4) (rm11 l Z a0 hw [] wO wC wI cB G t2 u2 h101 n0 (Nat.le_trans Z0 K101'.1) O101 ht2 hu2) hZ (hw _ (List.mem_of_getElem? (i := 66) rfl)) (hw _ (List.mem_of_getElem? (i := 2) rfl)) (by decide) (by decide)) (g := (mkF m 40 #[.val (.ref a0_), .val (.ref a1_)] [u2, t2, (own_pk t1 u1), (own_pk t0 u0), (.ref b101), (.ref b101)])) rfl (by rw [hml]; rfl) (argsL := [t2, u2]) (rest := [(own_pk t1 u1), (own_pk t0 u0), (.ref b101), (.ref b101)]) (lenOf pd_4 rfl) rfl (by show 2 * 0 + _ ≤ _; exact own_cW (own_cK (own_cK (own_cK (own_cK own_c0 rfl) rfl) (Jvm.Free.XT.cat1 (own_pk_ref ht0 hu0))) (Jvm.Free.XT.cat1 (own_pk_ref ht1 hu1)))) (hb hby d10_40) (fun _ _ => ⟨rfl, e111, (by decide : 1 + 0 ≤ 1), (by decide : 6 + 0 ≤ 6)⟩)
  dsimp only [Pt.U, Pt.locs, Pt.cells, Pt.slots] at X112 l112 y112 z112 st112 hQ112
  rw [l112, y112, z112] at X112
  obtain ⟨rfl, N112q, K112⟩ := hQ112
  have N112 := Fr.app N108 N112q
  have e112 : T112.heap = h101 := K112
  refine own_go (B := T112.setTop (mkF m 43 #[.val (.ref a0_), .val (.ref a1_)] [(own_pk t2 u2), (own_pk t1 u1), (own_pk t0 u0), (.ref b101), (.ref b101)])) (st112) ?_
  obtain ⟨T113, X113, e113, st113⟩ := own_castV X112 hx hZ hown (hw _ (List.mem_of_getElem? (i := 113) rfl)) e112 (own_ok_pk (own_ok_ext E101 kt2) (own_ok_ext E101 ku2)) (g := (mkF m 43 #[.val (.ref a0_), .val (.ref a1_)] [(own_pk t2 u2), (own_pk t1 u1), (own_pk t0 u0), (.ref b101), (.ref b101)])) rfl rfl (hb hby d10_43)
  refine own_go (B := T113.setTop (mkF m 46 #[.val (.ref a0_), .val (.ref a1_)] [(own_pk t2 u2), (own_pk t1 u1), (own_pk t0 u0), (.ref b101), (.ref b101)])) (st113) ?_
  refine own_go (B := T113.setTop (mkF m 47 #[.val (.ref a0_), .val (.ref a1_)] [(.ref a1_), (own_pk t2 u2), (own_pk t1 u1), (own_pk t0 u0), (.ref b101), (.ref b101)])) (fun _ k => XS.aloadN X113.here hx rfl (hb hby d10_46) rfl rfl k) ?_
  obtain ⟨T114, X114, e114, st114⟩ := getF X113 hx hZ hown (host := "") (Or.inl (hw _ (List.mem_of_getElem? (i := 52) rfl))) Via.refl e113 (Ft3.ext E101) (g := (mkF m 47 #[.val (.ref a0_), .val (.ref a1_)] [(.ref a1_), (own_pk t2 u2), (own_pk t1 u1), (own_pk t0 u0), (.ref b101), (.ref b101)])) rfl rfl (hb hby d10_47)
  refine own_go (B := T114.setTop (mkF m 50 #[.val (.ref a0_), .val (.ref a1_)] [t3, (own_pk t2 u2), (own_pk t1 u1), (own_pk t0 u0), (.ref b101), (.ref b101)])) (st114) ?_
  refine own_go (B := T114.setTop (mkF m 51 #[.val (.ref a0_), .val (.ref a1_)] [(.ref a0_), t3, (own_pk t2 u2), (own_pk t1 u1), (own_pk t0 u0), (.ref b101), (.ref b101)])) (fun _ k => XS.aloadN X114.here hx rfl (hb hby d10_50) rfl rfl k) ?_
  obtain ⟨T115, X115, e115, st115⟩ := getF X114 hx hZ hown (host := "") (Or.inl (hw _ (List.mem_of_getElem? (i := 52) rfl))) Via.refl e114 (Fu3.ext E101) (g := (mkF m 51 #[.val (.ref a0_), .val (.ref a1_)] [(.ref a0_), t3, (own_pk t2 u2), (own_pk t1 u1), (own_pk t0 u0), (.ref b101), (.ref b101)])) rfl rfl (hb hby d10_51)
  refine own_go (B := T115.setTop (mkF m 54 #[.val (.ref a0_), .val (.ref a1_)] [u3, t3, (own_pk t2 u2), (own_pk t1 u1), (own_pk t0 u0), (.ref b101), (.ref b101)])) (st115) ?_
  obtain ⟨_, _, ⟨T116, L116, k116, n116⟩, -, X116, ⟨Lc116, hQ116, l116, y116, z116⟩, st116⟩ := Jvm.LawKit.callS X115 hx (y := (⟨"com/example/roomwire/roomwire/core/NightState", "pick", "(Ljava/lang/Object;Ljava/lang/Object;)Ljava/lang/Object;"⟩ : MethodName)) hown (mvT hZ (hw _ (List.mem_of_getElem? (i := 64) rfl))) (mvT hZ (hw _ (List.mem_of_getElem? (i := 65) rfl))) (mvT hZ (hw _ (List.mem_of_getElem? (i := 2) rfl))) (mvT hZ (hw _ (List.mem_of_getElem? (i := 66) rfl))) (by decide) (backOf (W := 5) (rm11 l Z a0 hw [] wO wC wI cB G t3 u3 h101 n0 (Nat.le_trans Z0 K101'.1) O101 ht3 hu3) hZ (hw _ (List.mem_of_getElem? (i := 66) rfl)) (hw _ (List.mem_of_getElem? (i := 2) rfl)) (by decide) (by decide)) (g := (mkF m 54 #[.val (.ref a0_), .val (.ref a1_)] [u3, t3, (own_pk t2 u2), (own_pk t1 u1), (own_pk t0 u0), (.ref b101), (.ref b101)])) rfl (by rw [hml]; rfl) (argsL := [t3, u3]) (rest := [(own_pk t2 u2), (own_pk t1 u1), (own_pk t0 u0), (.ref b101), (.ref b101)]) (lenOf pd_4 rfl) rfl (by show 2 * 0 + _ ≤ _; exact own_cW (own_cK (own_cK (own_cK (own_cK (own_cK own_c0 rfl) rfl) (Jvm.Free.XT.cat1 (own_pk_ref ht0 hu0))) (Jvm.Free.XT.cat1 (own_pk_ref ht1 hu1))) (Jvm.Free.XT.cat1 (own_pk_ref ht2 hu2)))) (hb hby d10_54) (fun _ _ => ⟨rfl, e115, (by decide : 1 + 0 ≤ 1), (by decide : 6 + 0 ≤ 6)⟩)
  dsimp only [Pt.U, Pt.locs, Pt.cells, Pt.slots] at X116 l116 y116 z116 st116 hQ116
  rw [l116, y116, z116] at X116
  obtain ⟨rfl, N116q, K116⟩ := hQ116
  have N116 := Fr.app N112 N116q
  have e116 : T116.heap = h101 := K116
  refine own_go (B := T116.setTop (mkF m 57 #[.val (.ref a0_), .val (.ref a1_)] [(own_pk t3 u3), (own_pk t2 u2), (own_pk t1 u1), (own_pk t0 u0), (.ref b101), (.ref b101)])) (st116) ?_
  obtain ⟨T117, X117, e117, st117⟩ := own_castV X116 hx hZ hown (hw _ (List.mem_of_getElem? (i := 113) rfl)) e116 (own_ok_pk (own_ok_ext E101 kt3) (own_ok_ext E101 ku3)) (g := (mkF m 57 #[.val (.ref a0_), .val (.ref a1_)] [(own_pk t3 u3), (own_pk t2 u2), (own_pk t1 u1), (own_pk t0 u0), (.ref b101), (.ref b101)])) rfl rfl (hb hby d10_57)
  refine own_go (B := T117.setTop (mkF m 60 #[.val (.ref a0_), .val (.ref a1_)] [(own_pk t3 u3), (own_pk t2 u2), (own_pk t1 u1), (own_pk t0 u0), (.ref b101), (.ref b101)])) (st117) ?_
  refine own_go (B := T117.setTop (mkF m 61 #[.val (.ref a0_), .val (.ref a1_)] [(.ref a1_), (own_pk t3 u3), (own_pk t2 u2), (own_pk t1 u1), (own_pk t0 u0), (.ref b101), (.ref b101)])) (fun _ k => XS.aloadN X117.here hx rfl (hb hby d10_60) rfl rfl k) ?_
  obtain ⟨T118, X118, e118, st118⟩ := getF X117 hx hZ hown (host := "") (Or.inl (hw _ (List.mem_of_getElem? (i := 54) rfl))) Via.refl e117 (Ft4.ext E101) (g := (mkF m 61 #[.val (.ref a0_), .val (.ref a1_)] [(.ref a1_), (own_pk t3 u3), (own_pk t2 u2), (own_pk t1 u1), (own_pk t0 u0), (.ref b101), (.ref b101)])) rfl rfl (hb hby d10_61)
  refine own_go (B := T118.setTop (mkF m 64 #[.val (.ref a0_), .val (.ref a1_)] [t4, (own_pk t3 u3), (own_pk t2 u2), (own_pk t1 u1), (own_pk t0 u0), (.ref b101), (.ref b101)])) (st118) ?_
  refine own_go (B := T118.setTop (mkF m 65 #[.val (.ref a0_), .val (.ref a1_)] [(.ref a0_), t4, (own_pk t3 u3), (own_pk t2 u2), (own_pk t1 u1), (own_pk t0 u0), (.ref b101), (.ref b101)])) (fun _ k => XS.aloadN X118.here hx rfl (hb hby d10_64) rfl rfl k) ?_
  obtain ⟨T119, X119, e119, st119⟩ := getF X118 hx hZ hown (host := "") (Or.inl (hw _ (List.mem_of_getElem? (i := 54) rfl))) Via.refl e118 (Fu4.ext E101) (g := (mkF m 65 #[.val (.ref a0_), .val (.ref a1_)] [(.ref a0_), t4, (own_pk t3 u3), (own_pk t2 u2), (own_pk t1 u1), (own_pk t0 u0), (.ref b101), (.ref b101)])) rfl rfl (hb hby d10_65)
  refine own_go (B := T119.setTop (mkF m 68 #[.val (.ref a0_), .val (.ref a1_)] [u4, t4, (own_pk t3 u3), (own_pk t2 u2), (own_pk t1 u1), (own_pk t0 u0), (.ref b101), (.ref b101)])) (st119) ?_
  obtain ⟨_, _, ⟨T120, L120, k120, n120⟩, -, X120, ⟨Lc120, hQ120, l120, y120, z120⟩, st120⟩ := Jvm.LawKit.callS X119 hx (y := (⟨"com/example/roomwire/roomwire/core/NightState", "pick", "(Ljava/lang/Object;Ljava/lang/Object;)Ljava/lang/Object;"⟩ : MethodName)) hown (mvT hZ (hw _ (List.mem_of_getElem? (i := 64) rfl))) (mvT hZ (hw _ (List.mem_of_getElem? (i := 65) rfl))) (mvT hZ (hw _ (List.mem_of_getElem? (i := 2) rfl))) (mvT hZ (hw _ (List.mem_of_getElem? (i := 66) rfl))) (by decide) (backOf (W := 6) (rm11 l Z a0 hw [] wO wC wI cB G t4 u4 h101 n0 (Nat.le_trans Z0 K101'.1) O101 ht4 hu4) hZ (hw _ (List.mem_of_getElem? (i := 66) rfl)) (hw _ (List.mem_of_getElem? (i := 2) rfl)) (by decide) (by decide)) (g := (mkF m 68 #[.val (.ref a0_), .val (.ref a1_)] [u4, t4, (own_pk t3 u3), (own_pk t2 u2), (own_pk t1 u1), (own_pk t0 u0), (.ref b101), (.ref b101)])) rfl (by rw [hml]; rfl) (argsL := [t4, u4]) (rest := [(own_pk t3 u3), (own_pk t2 u2), (own_pk t1 u1), (own_pk t0 u0), (.ref b101), (.ref b101)]) (lenOf pd_4 rfl) rfl (by show 2 * 0 + _ ≤ _; exact own_cW (own_cK (own_cK (own_cK (own_cK (own_cK (own_cK own_c0 rfl) rfl) (Jvm.Free.XT.cat1 (own_pk_ref ht0 hu0))) (Jvm.Free.XT.cat1 (own_pk_ref ht1 hu1))) (Jvm.Free.XT.cat1 (own_pk_ref ht2 hu2))) (Jvm.Free.XT.cat1 (own_pk_ref ht3 hu3)))) (hb hby d10_68) (fun _ _ => ⟨rfl, e119, (by decide : 1 + 0 ≤ 1), (by decide : 6 + 0 ≤ 6)⟩)
  dsimp only [Pt.U, Pt.locs, Pt.cells, Pt.slots] at X120 l120 y120 z120 st120 hQ120
  rw [l120, y120, z120] at X120
  obtain ⟨rfl, N120q, K120⟩ := hQ120
  have N120 := Fr.app N116 N120q
  have e120 : T120.heap = h101 := K120
  refine own_go (B := T120.setTop (mkF m 71 #[.val (.ref a0_), .val (.ref a1_)] [(own_pk t4 u4), (own_pk t3 u3), (own_pk t2 u2), (own_pk t1 u1), (own_pk t0 u0), (.ref b101), (.ref b101)])) (st120) ?_
  obtain ⟨T121, X121, e121, st121⟩ := own_castV X120 hx hZ hown (hw _ (List.mem_of_getElem? (i := 67) rfl)) e120 (own_ok_pk (own_ok_ext E101 kt4) (own_ok_ext E101 ku4)) (g := (mkF m 71 #[.val (.ref a0_), .val (.ref a1_)] [(own_pk t4 u4), (own_pk t3 u3), (own_pk t2 u2), (own_pk t1 u1), (own_pk t0 u0), (.ref b101), (.ref b101)])) rfl rfl (hb hby d10_71)
  refine own_go (B := T121.setTop (mkF m 74 #[.val (.ref a0_), .val (.ref a1_)] [(own_pk t4 u4), (own_pk t3 u3), (own_pk t2 u2), (own_pk t1 u1), (own_pk t0 u0), (.ref b101), (.ref b101)])) (st121) ?_
  refine own_go (B := T121.setTop (mkF m 75 #[.val (.ref a0_), .val (.ref a1_)] [(.ref a1_), (own_pk t4 u4), (own_pk t3 u3), (own_pk t2 u2), (own_pk t1 u1), (own_pk t0 u0), (.ref b101), (.ref b101)])) (fun _ k => XS.aloadN X121.here hx rfl (hb hby d10_74) rfl rfl k) ?_
  obtain ⟨T122, X122, e122, st122⟩ := getF X121 hx hZ hown (host := "") (Or.inl (hw _ (List.mem_of_getElem? (i := 56) rfl))) Via.refl e121 (Ft5.ext E101) (g := (mkF m 75 #[.val (.ref a0_), .val (.ref a1_)] [(.ref a1_), (own_pk t4 u4), (own_pk t3 u3), (own_pk t2 u2), (own_pk t1 u1), (own_pk t0 u0), (.ref b101), (.ref b101)])) rfl rfl (hb hby d10_75)
  refine own_go (B := T122.setTop (mkF m 78 #[.val (.ref a0_), .val (.ref a1_)] [t5, (own_pk t4 u4), (own_pk t3 u3), (own_pk t2 u2), (own_pk t1 u1), (own_pk t0 u0), (.ref b101), (.ref b101)])) (st122) ?_
  refine own_go (B := T122.setTop (mkF m 79 #[.val (.ref a0_), .val (.ref a1_)] [(.ref a0_), t5, (own_pk t4 u4), (own_pk t3 u3), (own_pk t2 u2), (own_pk t1 u1), (own_pk t0 u0), (.ref b101), (.ref b101)])) (fun _ k => XS.aloadN X122.here hx rfl (hb hby d10_78) rfl rfl k) ?_
  obtain ⟨T123, X123, e123, st123⟩ := getF X122 hx hZ hown (host := "") (Or.inl (hw _ (List.mem_of_getElem? (i := 56) rfl))) Via.refl e122 (Fu5.ext E101) (g := (mkF m 79 #[.val (.ref a0_), .val (.ref a1_)] [(.ref a0_), t5, (own_pk t4 u4), (own_pk t3 u3), (own_pk t2 u2), (own_pk t1 u1), (own_pk t0 u0), (.ref b101), (.ref b101)])) rfl rfl (hb hby d10_79)
  refine own_go (B := T123.setTop (mkF m 82 #[.val (.ref a0_), .val (.ref a1_)] [u5, t5, (own_pk t4 u4), (own_pk t3 u3), (own_pk t2 u2), (own_pk t1 u1), (own_pk t0 u0), (.ref b101), (.ref b101)])) (st123) ?_
  obtain ⟨_, _, ⟨T124, L124, k124, n124⟩, -, X124, ⟨Lc124, hQ124, l124, y124, z124⟩, st124⟩ := Jvm.LawKit.callS X123 hx (y := (⟨"com/example/roomwire/roomwire/core/NightState", "pick", "(Ljava/lang/Object;Ljava/lang/Object;)Ljava/lang/Object;"⟩ : MethodName)) hown (mvT hZ (hw _ (List.mem_of_getElem? (i := 64) rfl))) (mvT hZ (hw _ (List.mem_of_getElem? (i := 65) rfl))) (mvT hZ (hw _ (List.mem_of_getElem? (i := 2) rfl))) (mvT hZ (hw _ (List.mem_of_getElem? (i := 66) rfl))) (by decide) (backOf (W := 7) (rm11 l Z a0 hw [] wO wC wI cB G t5 u5 h101 n0 (Nat.le_trans Z0 K101'.1) O101 ht5 hu5) hZ (hw _ (List.mem_of_getElem? (i := 66) rfl)) (hw _ (List.mem_of_getElem? (i := 2) rfl)) (by decide) (by decide)) (g := (mkF m 82 #[.val (.ref a0_), .val (.ref a1_)] [u5, t5, (own_pk t4 u4), (own_pk t3 u3), (own_pk t2 u2), (own_pk t1 u1), (own_pk t0 u0), (.ref b101), (.ref b101)])) rfl (by rw [hml]; rfl) (argsL := [t5, u5]) (rest := [(own_pk t4 u4), (own_pk t3 u3), (own_pk t2 u2), (own_pk t1 u1), (own_pk t0 u0), (.ref b101), (.ref b101)]) (lenOf pd_4 rfl) rfl (by show 2 * 0 + _ ≤ _; exact own_cW (own_cK (own_cK (own_cK (own_cK (own_cK (own_cK (own_cK own_c0 rfl) rfl) (Jvm.Free.XT.cat1 (own_pk_ref ht0 hu0))) (Jvm.Free.XT.cat1 (own_pk_ref ht1 hu1))) (Jvm.Free.XT.cat1 (own_pk_ref ht2 hu2))) (Jvm.Free.XT.cat1 (own_pk_ref ht3 hu3))) (Jvm.Free.XT.cat1 (own_pk_ref ht4 hu4)))) (hb hby d10_82) (fun _ _ => ⟨rfl, e123, (by decide : 1 + 0 ≤ 1), (by decide : 6 + 0 ≤ 6)⟩)
  dsimp only [Pt.U, Pt.locs, Pt.cells, Pt.slots] at X124 l124 y124 z124 st124 hQ124
  rw [l124, y124, z124] at X124
  obtain ⟨rfl, N124q, K124⟩ := hQ124
  have N124 := Fr.app N120 N124q
  have e124 : T124.heap = h101 := K124
  refine own_go (B := T124.setTop (mkF m 85 #[.val (.ref a0_), .val (.ref a1_)] [(own_pk t5 u5), (own_pk t4 u4), (own_pk t3 u3), (own_pk t2 u2), (own_pk t1 u1), (own_pk t0 u0), (.ref b101), (.ref b101)])) (st124) ?_
  obtain ⟨T125, X125, e125, st125⟩ := own_castV X124 hx hZ hown (hw _ (List.mem_of_getElem? (i := 67) rfl)) e124 (own_ok_pk (own_ok_ext E101 kt5) (own_ok_ext E101 ku5)) (g := (mkF m 85 #[.val (.ref a0_), .val (.ref a1_)] [(own_pk t5 u5), (own_pk t4 u4), (own_pk t3 u3), (own_pk t2 u2), (own_pk t1 u1), (own_pk t0 u0), (.ref b101), (.ref b101)])) rfl rfl (hb hby d10_85)
  refine own_go (B := T125.setTop (mkF m 88 #[.val (.ref a0_), .val (.ref a1_)] [(own_pk t5 u5), (own_pk t4 u4), (own_pk t3 u3), (own_pk t2 u2), (own_pk t1 u1), (own_pk t0 u0), (.ref b101), (.ref b101)])) (st125) ?_
  obtain ⟨_, _, ⟨T126, L126, k126, n126⟩, -, X126, ⟨Lc126, hQ126, l126, y126, z126⟩, st126⟩ := X125.specialBack hx (y := (⟨"com/example/roomwire/roomwire/core/NightState", "<init>", "(Ljava/lang/Integer;Lcom/example/roomwire/roomwire/core/Status;Lcom/example/roomwire/roomwire/core/Status;Lcom/example/roomwire/roomwire/core/Status;Ljava/lang/Integer;Ljava/lang/Integer;)V"⟩ : MethodName)) rfl hown (mvT hZ (hw _ (List.mem_of_getElem? (i := 68) rfl))) (mvT hZ (hw _ (List.mem_of_getElem? (i := 38) rfl))) (mvT hZ (hw _ (List.mem_of_getElem? (i := 39) rfl))) (by decide) (backOf (W := 1) (rm8 l Z a0 hw [] wO wC wI cB G b101 (own_pk t0 u0) (own_pk t1 u1) (own_pk t2 u2) (own_pk t3 u3) (own_pk t4 u4) (own_pk t5 u5) h101 n0 (Nat.le_trans Z0 K101'.1) O101 (own_pk_ref ht0 hu0) (own_pk_ref ht1 hu1) (own_pk_ref ht2 hu2) (own_pk_ref ht3 hu3) (own_pk_ref ht4 hu4) (own_pk_ref ht5 hu5) A101 g_b101 F_bookingLimit_b101 F_master_b101 F_arrival_b101 F_departure_b101 F_minStay_b101 F_maxStay_b101) hZ (hw _ (List.mem_of_getElem? (i := 39) rfl)) (hw _ (List.mem_of_getElem? (i := 2) rfl)) (by decide) (by decide)) (g := (mkF m 88 #[.val (.ref a0_), .val (.ref a1_)] [(own_pk t5 u5), (own_pk t4 u4), (own_pk t3 u3), (own_pk t2 u2), (own_pk t1 u1), (own_pk t0 u0), (.ref b101), (.ref b101)])) rfl (by rw [hml]; rfl) (Steps.refl _) (a := b101) (argsL := [(own_pk t0 u0), (own_pk t1 u1), (own_pk t2 u2), (own_pk t3 u3), (own_pk t4 u4), (own_pk t5 u5)]) (rest := [(.ref b101)]) (lenOf pd_5 rfl) rfl (by show 2 * 0 + _ ≤ _; exact Nat.le_of_eq rfl) (hb hby d10_88) (fun _ _ => ⟨rfl, e125, (by decide : 1 + 0 ≤ 1), (by decide : 6 + 0 ≤ 6)⟩)
  dsimp only [Pt.U, Pt.locs, Pt.cells, Pt.slots] at X126 l126 y126 z126 st126 hQ126
  rw [l126, y126, z126] at X126
  obtain ⟨rfl, N126q, K126, P0_126, P1_126, P2_126, P3_126, P4_126, P5_126⟩ := hQ126
  have N126 := Fr.app N124 N126q
  have O126 := O101.keep K126 (allS g_b101 all0)
  have K126' : Keep h0 T126.heap ([] : List Addr) := K101'.trans K126 (allS (Or.inr sz_b101) all0)
  refine own_go (B := T126.setTop (mkF m 91 #[.val (.ref a0_), .val (.ref a1_)] [(.ref b101)])) (fun _ k => st126.trans k) ?_
  obtain ⟨fs, hr, hrun, hended, hW, hsame⟩ := X126.leave (v := some (.ref b101)) (fun h => by rw [Bd.returns] at h; cases h)
  refine ⟨_, _, retOut X126 hx Bd.returns rfl (Or.inr (Or.inr (Or.inr (Or.inr ⟨rfl, rfl, rfl⟩)))) (hb hby d10_91) hr, hrun, hended, _, _, rfl, ?_, ⟨_, rfl⟩, hW, hsame.mono (by decide) (by decide)⟩
  show Q_rm10 Z wO wC wI cB a0_ a1_ _ _ _ _ _ _ _ _ _ _ _ _ h0 n0 _ T126.heap _
  exact ⟨b101, rfl, N126, K126', sz_b101, (A101.keep K126), P0_126, P1_126, P2_126, P3_126, P4_126, P5_126⟩
theorem d12_0 : decode prog_25_method_11_code 0 = .ok (.aload_n 0, 1) := by decide +kernel
theorem d12_1 : decode prog_25_method_11_code 1 = .ok (.getfield 7, 3) := by decide +kernel
theorem d12_4 : decode prog_25_method_11_code 4 = .ok (.areturn, 1) := by decide +kernel
theorem ef_rm12 (m : MethodId) (a1_ : Addr) : entryFrame m #[(.ref a1_)] 1 = mkF m 0 #[.val (.ref a1_)] [] := by first | (simp [entryFrame, mkF, argsToLocals, Value.category]; done) | rfl
def Q_rm12 (Z : State) (wO : Addr) (wC : Addr) (wI : Addr) (cB : Cell) (a1_ : Addr) (u : Value) (h0 : Heap) (n0 : Nat) (v : Option Value) (h : Heap) (L : List Loc) : Prop := v = some u ∧ Fr n0 L ∧ h = h0
set_option maxRecDepth 65536 in
set_option maxHeartbeats 40000000 in
theorem rm12 (l : Launch) (Z : State) (a0 : Array Value) (hw : ∀ d ∈ tables_1, d.before a0 Z = true) (ws : List Jvm.Cond) (wO : Addr) (wC : Addr) (wI : Addr) (cB : Cell) (G : own_G Z wO wC wI cB) (a1_ : Addr) (u : Value) (h0 : Heap) (n0 : Nat) (Z0 : n0 ≤ h0.size) (O0 : Old Z n0 h0) (F : Fld Z h0 a1_ "com/example/roomwire/roomwire/core/NightState" "bookingLimit" "Ljava/lang/Integer;" u) (hu : u.isRef = true) :
    MetFree l (⟨"com/example/roomwire/roomwire/core/NightState", "bookingLimit", "()Ljava/lang/Integer;"⟩ : MethodName) (head1 (Jvm.Cond.code (⟨"com/example/roomwire/roomwire/core/NightState", "bookingLimit", "()Ljava/lang/Integer;"⟩ : MethodName) prog_25_method_11_code 1 (some (.object "java/lang/Integer")) :: ws) ({ frames := 0, cells := 0, slots := 0, locals := 0 } : Room)) (fun a U => a = #[(.ref a1_)] ∧ Z.Warmed39 U.vm ∧ U.heap = h0) (fun _ _ _ _ _ => True) (fun _ U o U' => ∃ v L, o = .returned v ∧ Q_rm12 Z wO wC wI cB a1_ u h0 n0 v U'.heap L ∧ FrameEnd U o U' L ({ frames := 0, cells := 0, slots := 0, locals := 0 } : Room).cells ({ frames := 0, cells := 0, slots := 0, locals := 0 } : Room).slots) := by
  refine MetFree.of_bodySF (plainFor_of_name pn_8) hisR ?_
  intro p e s m args below meth c s₁ Bd hml0 hP hK
  obtain ⟨rfl, hZ, hh⟩ := hP
  have hx := Bd.exec
  have hby := Bd.bytes
  have hml : c.maxLocals = 1 := hml0
  have hown : s.vm.findClass "com/example/roomwire/roomwire/core/NightState" = some m.cls := findClass_of_methodNamed Bd.named
  have hnm := (name_of_methodNamed Bd.named Bd.method).1
  have X0 : Stand p l e ({ frames := 0, cells := 0, slots := 0, locals := 0 } : Room) s m #[(.ref a1_)] below meth c s₁ [] 0 0 := Stand.of_body Bd
  have e0 : s₁.heap = h0 := by rw [← hh, Bd.state]; rfl
  have N0 := Fr.nil n0
  have K0 := Keep.refl h0 ([] : List Addr)
  have G_ := G
  obtain ⟨S_Status_OPEN, E_wO, S_Status_CLOSED, E_wC, S_Integer_IntegerCache_cache, E_wI, S_Integer_IntegerCache_high, BX, G_end⟩ := G_
  change own_Go p e below _ _
  refine own_go (B := s₁.setTop (mkF m 0 #[.val (.ref a1_)] [])) (fun _ k => castTop (ef_rm12 m a1_) k) ?_
  refine own_go (B := s₁.setTop (mkF m 1 #[.val (.ref a1_)] [(.ref a1_)])) (fun _ k => XS.aloadN X0.here hx rfl (hb hby d12_0) rfl rfl k) ?_
  obtain ⟨T101, X101, e101, st101⟩ := getF X0 hx hZ hown (host := "") (Or.inl (hw _ (List.mem_of_getElem? (i := 46) rfl))) Via.refl e0 F (g := (mkF m 1 #[.val (.ref a1_)] [(.ref a1_)])) rfl rfl (hb hby d12_1)
  refine own_go (B := T101.setTop (mkF m 4 #[.val (.ref a1_)] [u])) (st101) ?_
  obtain ⟨fs, hr, hrun, hended, hW, hsame⟩ := X101.leave (v := some u) (fun h => by rw [Bd.returns] at h; cases h)
  refine ⟨_, _, retOut X101 hx Bd.returns rfl (Or.inr (Or.inr (Or.inr (Or.inr ⟨rfl, rfl, hu⟩)))) (hb hby d12_4) hr, hrun, hended, _, _, rfl, ?_, ⟨_, rfl⟩, hW, hsame.mono (by decide) (by decide)⟩
  show Q_rm12 Z wO wC wI cB a1_ _ h0 n0 _ T101.heap _
  rw [e101]
  exact ⟨rfl, N0, rfl⟩
theorem d15_0 : decode prog_25_method_12_code 0 = .ok (.aload_n 0, 1) := by decide +kernel
theorem d15_1 : decode prog_25_method_12_code 1 = .ok (.getfield 13, 3) := by decide +kernel
theorem d15_4 : decode prog_25_method_12_code 4 = .ok (.areturn, 1) := by decide +kernel
theorem ef_rm15 (m : MethodId) (a1_ : Addr) : entryFrame m #[(.ref a1_)] 1 = mkF m 0 #[.val (.ref a1_)] [] := by first | (simp [entryFrame, mkF, argsToLocals, Value.category]; done) | rfl
def Q_rm15 (Z : State) (wO : Addr) (wC : Addr) (wI : Addr) (cB : Cell) (a1_ : Addr) (u : Value) (h0 : Heap) (n0 : Nat) (v : Option Value) (h : Heap) (L : List Loc) : Prop := v = some u ∧ Fr n0 L ∧ h = h0
set_option maxRecDepth 65536 in
set_option maxHeartbeats 40000000 in
theorem rm15 (l : Launch) (Z : State) (a0 : Array Value) (hw : ∀ d ∈ tables_1, d.before a0 Z = true) (ws : List Jvm.Cond) (wO : Addr) (wC : Addr) (wI : Addr) (cB : Cell) (G : own_G Z wO wC wI cB) (a1_ : Addr) (u : Value) (h0 : Heap) (n0 : Nat) (Z0 : n0 ≤ h0.size) (O0 : Old Z n0 h0) (F : Fld Z h0 a1_ "com/example/roomwire/roomwire/core/NightState" "master" "Lcom/example/roomwire/roomwire/core/Status;" u) (hu : u.isRef = true) :
    MetFree l (⟨"com/example/roomwire/roomwire/core/NightState", "master", "()Lcom/example/roomwire/roomwire/core/Status;"⟩ : MethodName) (head1 (Jvm.Cond.code (⟨"com/example/roomwire/roomwire/core/NightState", "master", "()Lcom/example/roomwire/roomwire/core/Status;"⟩ : MethodName) prog_25_method_12_code 1 (some (.object "com/example/roomwire/roomwire/core/Status")) :: ws) ({ frames := 0, cells := 0, slots := 0, locals := 0 } : Room)) (fun a U => a = #[(.ref a1_)] ∧ Z.Warmed39 U.vm ∧ U.heap = h0) (fun _ _ _ _ _ => True) (fun _ U o U' => ∃ v L, o = .returned v ∧ Q_rm15 Z wO wC wI cB a1_ u h0 n0 v U'.heap L ∧ FrameEnd U o U' L ({ frames := 0, cells := 0, slots := 0, locals := 0 } : Room).cells ({ frames := 0, cells := 0, slots := 0, locals := 0 } : Room).slots) := by
  refine MetFree.of_bodySF (plainFor_of_name pn_8) hisR ?_
  intro p e s m args below meth c s₁ Bd hml0 hP hK
  obtain ⟨rfl, hZ, hh⟩ := hP
  have hx := Bd.exec
  have hby := Bd.bytes
  have hml : c.maxLocals = 1 := hml0
  have hown : s.vm.findClass "com/example/roomwire/roomwire/core/NightState" = some m.cls := findClass_of_methodNamed Bd.named
  have hnm := (name_of_methodNamed Bd.named Bd.method).1
  have X0 : Stand p l e ({ frames := 0, cells := 0, slots := 0, locals := 0 } : Room) s m #[(.ref a1_)] below meth c s₁ [] 0 0 := Stand.of_body Bd
  have e0 : s₁.heap = h0 := by rw [← hh, Bd.state]; rfl
  have N0 := Fr.nil n0
  have K0 := Keep.refl h0 ([] : List Addr)
  have G_ := G
  obtain ⟨S_Status_OPEN, E_wO, S_Status_CLOSED, E_wC, S_Integer_IntegerCache_cache, E_wI, S_Integer_IntegerCache_high, BX, G_end⟩ := G_
  change own_Go p e below _ _
  refine own_go (B := s₁.setTop (mkF m 0 #[.val (.ref a1_)] [])) (fun _ k => castTop (ef_rm15 m a1_) k) ?_
  refine own_go (B := s₁.setTop (mkF m 1 #[.val (.ref a1_)] [(.ref a1_)])) (fun _ k => XS.aloadN X0.here hx rfl (hb hby d15_0) rfl rfl k) ?_
  obtain ⟨T101, X101, e101, st101⟩ := getF X0 hx hZ hown (host := "") (Or.inl (hw _ (List.mem_of_getElem? (i := 48) rfl))) Via.refl e0 F (g := (mkF m 1 #[.val (.ref a1_)] [(.ref a1_)])) rfl rfl (hb hby d15_1)
  refine own_go (B := T101.setTop (mkF m 4 #[.val (.ref a1_)] [u])) (st101) ?_
  obtain ⟨fs, hr, hrun, hended, hW, hsame⟩ := X101.leave (v := some u) (fun h => by rw [Bd.returns] at h; cases h)
  refine ⟨_, _, retOut X101 hx Bd.returns rfl (Or.inr (Or.inr (Or.inr (Or.inr ⟨rfl, rfl, hu⟩)))) (hb hby d15_4) hr, hrun, hended, _, _, rfl, ?_, ⟨_, rfl⟩, hW, hsame.mono (by decide) (by decide)⟩
  show Q_rm15 Z wO wC wI cB a1_ _ h0 n0 _ T101.heap _
  rw [e101]
  exact ⟨rfl, N0, rfl⟩
theorem d17_0 : decode prog_25_method_13_code 0 = .ok (.aload_n 0, 1) := by decide +kernel
theorem d17_1 : decode prog_25_method_13_code 1 = .ok (.getfield 17, 3) := by decide +kernel
theorem d17_4 : decode prog_25_method_13_code 4 = .ok (.areturn, 1) := by decide +kernel
theorem ef_rm17 (m : MethodId) (a1_ : Addr) : entryFrame m #[(.ref a1_)] 1 = mkF m 0 #[.val (.ref a1_)] [] := by first | (simp [entryFrame, mkF, argsToLocals, Value.category]; done) | rfl
def Q_rm17 (Z : State) (wO : Addr) (wC : Addr) (wI : Addr) (cB : Cell) (a1_ : Addr) (u : Value) (h0 : Heap) (n0 : Nat) (v : Option Value) (h : Heap) (L : List Loc) : Prop := v = some u ∧ Fr n0 L ∧ h = h0
set_option maxRecDepth 65536 in
set_option maxHeartbeats 40000000 in
theorem rm17 (l : Launch) (Z : State) (a0 : Array Value) (hw : ∀ d ∈ tables_1, d.before a0 Z = true) (ws : List Jvm.Cond) (wO : Addr) (wC : Addr) (wI : Addr) (cB : Cell) (G : own_G Z wO wC wI cB) (a1_ : Addr) (u : Value) (h0 : Heap) (n0 : Nat) (Z0 : n0 ≤ h0.size) (O0 : Old Z n0 h0) (F : Fld Z h0 a1_ "com/example/roomwire/roomwire/core/NightState" "arrival" "Lcom/example/roomwire/roomwire/core/Status;" u) (hu : u.isRef = true) :
    MetFree l (⟨"com/example/roomwire/roomwire/core/NightState", "arrival", "()Lcom/example/roomwire/roomwire/core/Status;"⟩ : MethodName) (head1 (Jvm.Cond.code (⟨"com/example/roomwire/roomwire/core/NightState", "arrival", "()Lcom/example/roomwire/roomwire/core/Status;"⟩ : MethodName) prog_25_method_13_code 1 (some (.object "com/example/roomwire/roomwire/core/Status")) :: ws) ({ frames := 0, cells := 0, slots := 0, locals := 0 } : Room)) (fun a U => a = #[(.ref a1_)] ∧ Z.Warmed39 U.vm ∧ U.heap = h0) (fun _ _ _ _ _ => True) (fun _ U o U' => ∃ v L, o = .returned v ∧ Q_rm17 Z wO wC wI cB a1_ u h0 n0 v U'.heap L ∧ FrameEnd U o U' L ({ frames := 0, cells := 0, slots := 0, locals := 0 } : Room).cells ({ frames := 0, cells := 0, slots := 0, locals := 0 } : Room).slots) := by
  refine MetFree.of_bodySF (plainFor_of_name pn_8) hisR ?_
  intro p e s m args below meth c s₁ Bd hml0 hP hK
  obtain ⟨rfl, hZ, hh⟩ := hP
  have hx := Bd.exec
  have hby := Bd.bytes
  have hml : c.maxLocals = 1 := hml0
  have hown : s.vm.findClass "com/example/roomwire/roomwire/core/NightState" = some m.cls := findClass_of_methodNamed Bd.named
  have hnm := (name_of_methodNamed Bd.named Bd.method).1
  have X0 : Stand p l e ({ frames := 0, cells := 0, slots := 0, locals := 0 } : Room) s m #[(.ref a1_)] below meth c s₁ [] 0 0 := Stand.of_body Bd
  have e0 : s₁.heap = h0 := by rw [← hh, Bd.state]; rfl
  have N0 := Fr.nil n0
  have K0 := Keep.refl h0 ([] : List Addr)
  have G_ := G
  obtain ⟨S_Status_OPEN, E_wO, S_Status_CLOSED, E_wC, S_Integer_IntegerCache_cache, E_wI, S_Integer_IntegerCache_high, BX, G_end⟩ := G_
  change own_Go p e below _ _
  refine own_go (B := s₁.setTop (mkF m 0 #[.val (.ref a1_)] [])) (fun _ k => castTop (ef_rm17 m a1_) k) ?_
  refine own_go (B := s₁.setTop (mkF m 1 #[.val (.ref a1_)] [(.ref a1_)])) (fun _ k => XS.aloadN X0.here hx rfl (hb hby d17_0) rfl rfl k) ?_
  obtain ⟨T101, X101, e101, st101⟩ := getF X0 hx hZ hown (host := "") (Or.inl (hw _ (List.mem_of_getElem? (i := 50) rfl))) Via.refl e0 F (g := (mkF m 1 #[.val (.ref a1_)] [(.ref a1_)])) rfl rfl (hb hby d17_1)
  refine own_go (B := T101.setTop (mkF m 4 #[.val (.ref a1_)] [u])) (st101) ?_
  obtain ⟨fs, hr, hrun, hended, hW, hsame⟩ := X101.leave (v := some u) (fun h => by rw [Bd.returns] at h; cases h)
  refine ⟨_, _, retOut X101 hx Bd.returns rfl (Or.inr (Or.inr (Or.inr (Or.inr ⟨rfl, rfl, hu⟩)))) (hb hby d17_4) hr, hrun, hended, _, _, rfl, ?_, ⟨_, rfl⟩, hW, hsame.mono (by decide) (by decide)⟩
  show Q_rm17 Z wO wC wI cB a1_ _ h0 n0 _ T101.heap _
  rw [e101]
  exact ⟨rfl, N0, rfl⟩
theorem d18_0 : decode prog_25_method_14_code 0 = .ok (.aload_n 0, 1) := by decide +kernel
theorem d18_1 : decode prog_25_method_14_code 1 = .ok (.getfield 20, 3) := by decide +kernel
theorem d18_4 : decode prog_25_method_14_code 4 = .ok (.areturn, 1) := by decide +kernel
theorem ef_rm18 (m : MethodId) (a1_ : Addr) : entryFrame m #[(.ref a1_)] 1 = mkF m 0 #[.val (.ref a1_)] [] := by first | (simp [entryFrame, mkF, argsToLocals, Value.category]; done) | rfl
def Q_rm18 (Z : State) (wO : Addr) (wC : Addr) (wI : Addr) (cB : Cell) (a1_ : Addr) (u : Value) (h0 : Heap) (n0 : Nat) (v : Option Value) (h : Heap) (L : List Loc) : Prop := v = some u ∧ Fr n0 L ∧ h = h0
set_option maxRecDepth 65536 in
set_option maxHeartbeats 40000000 in
theorem rm18 (l : Launch) (Z : State) (a0 : Array Value) (hw : ∀ d ∈ tables_1, d.before a0 Z = true) (ws : List Jvm.Cond) (wO : Addr) (wC : Addr) (wI : Addr) (cB : Cell) (G : own_G Z wO wC wI cB) (a1_ : Addr) (u : Value) (h0 : Heap) (n0 : Nat) (Z0 : n0 ≤ h0.size) (O0 : Old Z n0 h0) (F : Fld Z h0 a1_ "com/example/roomwire/roomwire/core/NightState" "departure" "Lcom/example/roomwire/roomwire/core/Status;" u) (hu : u.isRef = true) :
    MetFree l (⟨"com/example/roomwire/roomwire/core/NightState", "departure", "()Lcom/example/roomwire/roomwire/core/Status;"⟩ : MethodName) (head1 (Jvm.Cond.code (⟨"com/example/roomwire/roomwire/core/NightState", "departure", "()Lcom/example/roomwire/roomwire/core/Status;"⟩ : MethodName) prog_25_method_14_code 1 (some (.object "com/example/roomwire/roomwire/core/Status")) :: ws) ({ frames := 0, cells := 0, slots := 0, locals := 0 } : Room)) (fun a U => a = #[(.ref a1_)] ∧ Z.Warmed39 U.vm ∧ U.heap = h0) (fun _ _ _ _ _ => True) (fun _ U o U' => ∃ v L, o = .returned v ∧ Q_rm18 Z wO wC wI cB a1_ u h0 n0 v U'.heap L ∧ FrameEnd U o U' L ({ frames := 0, cells := 0, slots := 0, locals := 0 } : Room).cells ({ frames := 0, cells := 0, slots := 0, locals := 0 } : Room).slots) := by
  refine MetFree.of_bodySF (plainFor_of_name pn_8) hisR ?_
  intro p e s m args below meth c s₁ Bd hml0 hP hK
  obtain ⟨rfl, hZ, hh⟩ := hP
  have hx := Bd.exec
  have hby := Bd.bytes
  have hml : c.maxLocals = 1 := hml0
  have hown : s.vm.findClass "com/example/roomwire/roomwire/core/NightState" = some m.cls := findClass_of_methodNamed Bd.named
  have hnm := (name_of_methodNamed Bd.named Bd.method).1
  have X0 : Stand p l e ({ frames := 0, cells := 0, slots := 0, locals := 0 } : Room) s m #[(.ref a1_)] below meth c s₁ [] 0 0 := Stand.of_body Bd
  have e0 : s₁.heap = h0 := by rw [← hh, Bd.state]; rfl
  have N0 := Fr.nil n0
  have K0 := Keep.refl h0 ([] : List Addr)
  have G_ := G
  obtain ⟨S_Status_OPEN, E_wO, S_Status_CLOSED, E_wC, S_Integer_IntegerCache_cache, E_wI, S_Integer_IntegerCache_high, BX, G_end⟩ := G_
  change own_Go p e below _ _
  refine own_go (B := s₁.setTop (mkF m 0 #[.val (.ref a1_)] [])) (fun _ k => castTop (ef_rm18 m a1_) k) ?_
  refine own_go (B := s₁.setTop (mkF m 1 #[.val (.ref a1_)] [(.ref a1_)])) (fun _ k => XS.aloadN X0.here hx rfl (hb hby d18_0) rfl rfl k) ?_
  obtain ⟨T101, X101, e101, st101⟩ := getF X0 hx hZ hown (host := "") (Or.inl (hw _ (List.mem_of_getElem? (i := 52) rfl))) Via.refl e0 F (g := (mkF m 1 #[.val (.ref a1_)] [(.ref a1_)])) rfl rfl (hb hby d18_1)
  refine own_go (B := T101.setTop (mkF m 4 #[.val (.ref a1_)] [u])) (st101) ?_
  obtain ⟨fs, hr, hrun, hended, hW, hsame⟩ := X101.leave (v := some u) (fun h => by rw [Bd.returns] at h; cases h)
  refine ⟨_, _, retOut X101 hx Bd.returns rfl (Or.inr (Or.inr (Or.inr (Or.inr ⟨rfl, rfl, hu⟩)))) (hb hby d18_4) hr, hrun, hended, _, _, rfl, ?_, ⟨_, rfl⟩, hW, hsame.mono (by decide) (by decide)⟩
  show Q_rm18 Z wO wC wI cB a1_ _ h0 n0 _ T101.heap _
  rw [e101]
  exact ⟨rfl, N0, rfl⟩
theorem d19_0 : decode prog_25_method_15_code 0 = .ok (.aload_n 0, 1) := by decide +kernel
theorem d19_1 : decode prog_25_method_15_code 1 = .ok (.getfield 23, 3) := by decide +kernel
theorem d19_4 : decode prog_25_method_15_code 4 = .ok (.areturn, 1) := by decide +kernel
theorem ef_rm19 (m : MethodId) (a1_ : Addr) : entryFrame m #[(.ref a1_)] 1 = mkF m 0 #[.val (.ref a1_)] [] := by first | (simp [entryFrame, mkF, argsToLocals, Value.category]; done) | rfl
def Q_rm19 (Z : State) (wO : Addr) (wC : Addr) (wI : Addr) (cB : Cell) (a1_ : Addr) (u : Value) (h0 : Heap) (n0 : Nat) (v : Option Value) (h : Heap) (L : List Loc) : Prop := v = some u ∧ Fr n0 L ∧ h = h0
set_option maxRecDepth 65536 in
set_option maxHeartbeats 40000000 in
theorem rm19 (l : Launch) (Z : State) (a0 : Array Value) (hw : ∀ d ∈ tables_1, d.before a0 Z = true) (ws : List Jvm.Cond) (wO : Addr) (wC : Addr) (wI : Addr) (cB : Cell) (G : own_G Z wO wC wI cB) (a1_ : Addr) (u : Value) (h0 : Heap) (n0 : Nat) (Z0 : n0 ≤ h0.size) (O0 : Old Z n0 h0) (F : Fld Z h0 a1_ "com/example/roomwire/roomwire/core/NightState" "minStay" "Ljava/lang/Integer;" u) (hu : u.isRef = true) :
    MetFree l (⟨"com/example/roomwire/roomwire/core/NightState", "minStay", "()Ljava/lang/Integer;"⟩ : MethodName) (head1 (Jvm.Cond.code (⟨"com/example/roomwire/roomwire/core/NightState", "minStay", "()Ljava/lang/Integer;"⟩ : MethodName) prog_25_method_15_code 1 (some (.object "java/lang/Integer")) :: ws) ({ frames := 0, cells := 0, slots := 0, locals := 0 } : Room)) (fun a U => a = #[(.ref a1_)] ∧ Z.Warmed39 U.vm ∧ U.heap = h0) (fun _ _ _ _ _ => True) (fun _ U o U' => ∃ v L, o = .returned v ∧ Q_rm19 Z wO wC wI cB a1_ u h0 n0 v U'.heap L ∧ FrameEnd U o U' L ({ frames := 0, cells := 0, slots := 0, locals := 0 } : Room).cells ({ frames := 0, cells := 0, slots := 0, locals := 0 } : Room).slots) := by
  refine MetFree.of_bodySF (plainFor_of_name pn_8) hisR ?_
  intro p e s m args below meth c s₁ Bd hml0 hP hK
  obtain ⟨rfl, hZ, hh⟩ := hP
  have hx := Bd.exec
  have hby := Bd.bytes
  have hml : c.maxLocals = 1 := hml0
  have hown : s.vm.findClass "com/example/roomwire/roomwire/core/NightState" = some m.cls := findClass_of_methodNamed Bd.named
  have hnm := (name_of_methodNamed Bd.named Bd.method).1
  have X0 : Stand p l e ({ frames := 0, cells := 0, slots := 0, locals := 0 } : Room) s m #[(.ref a1_)] below meth c s₁ [] 0 0 := Stand.of_body Bd
  have e0 : s₁.heap = h0 := by rw [← hh, Bd.state]; rfl
  have N0 := Fr.nil n0
  have K0 := Keep.refl h0 ([] : List Addr)
  have G_ := G
  obtain ⟨S_Status_OPEN, E_wO, S_Status_CLOSED, E_wC, S_Integer_IntegerCache_cache, E_wI, S_Integer_IntegerCache_high, BX, G_end⟩ := G_
  change own_Go p e below _ _
  refine own_go (B := s₁.setTop (mkF m 0 #[.val (.ref a1_)] [])) (fun _ k => castTop (ef_rm19 m a1_) k) ?_
  refine own_go (B := s₁.setTop (mkF m 1 #[.val (.ref a1_)] [(.ref a1_)])) (fun _ k => XS.aloadN X0.here hx rfl (hb hby d19_0) rfl rfl k) ?_
  obtain ⟨T101, X101, e101, st101⟩ := getF X0 hx hZ hown (host := "") (Or.inl (hw _ (List.mem_of_getElem? (i := 54) rfl))) Via.refl e0 F (g := (mkF m 1 #[.val (.ref a1_)] [(.ref a1_)])) rfl rfl (hb hby d19_1)
  refine own_go (B := T101.setTop (mkF m 4 #[.val (.ref a1_)] [u])) (st101) ?_
  obtain ⟨fs, hr, hrun, hended, hW, hsame⟩ := X101.leave (v := some u) (fun h => by rw [Bd.returns] at h; cases h)
  refine ⟨_, _, retOut X101 hx Bd.returns rfl (Or.inr (Or.inr (Or.inr (Or.inr ⟨rfl, rfl, hu⟩)))) (hb hby d19_4) hr, hrun, hended, _, _, rfl, ?_, ⟨_, rfl⟩, hW, hsame.mono (by decide) (by decide)⟩
  show Q_rm19 Z wO wC wI cB a1_ _ h0 n0 _ T101.heap _
  rw [e101]
  exact ⟨rfl, N0, rfl⟩
theorem d20_0 : decode prog_25_method_16_code 0 = .ok (.aload_n 0, 1) := by decide +kernel
theorem d20_1 : decode prog_25_method_16_code 1 = .ok (.getfield 26, 3) := by decide +kernel
theorem d20_4 : decode prog_25_method_16_code 4 = .ok (.areturn, 1) := by decide +kernel
theorem ef_rm20 (m : MethodId) (a1_ : Addr) : entryFrame m #[(.ref a1_)] 1 = mkF m 0 #[.val (.ref a1_)] [] := by first | (simp [entryFrame, mkF, argsToLocals, Value.category]; done) | rfl
def Q_rm20 (Z : State) (wO : Addr) (wC : Addr) (wI : Addr) (cB : Cell) (a1_ : Addr) (u : Value) (h0 : Heap) (n0 : Nat) (v : Option Value) (h : Heap) (L : List Loc) : Prop := v = some u ∧ Fr n0 L ∧ h = h0
set_option maxRecDepth 65536 in
set_option maxHeartbeats 40000000 in
theorem rm20 (l : Launch) (Z : State) (a0 : Array Value) (hw : ∀ d ∈ tables_1, d.before a0 Z = true) (ws : List Jvm.Cond) (wO : Addr) (wC : Addr) (wI : Addr) (cB : Cell) (G : own_G Z wO wC wI cB) (a1_ : Addr) (u : Value) (h0 : Heap) (n0 : Nat) (Z0 : n0 ≤ h0.size) (O0 : Old Z n0 h0) (F : Fld Z h0 a1_ "com/example/roomwire/roomwire/core/NightState" "maxStay" "Ljava/lang/Integer;" u) (hu : u.isRef = true) :
    MetFree l (⟨"com/example/roomwire/roomwire/core/NightState", "maxStay", "()Ljava/lang/Integer;"⟩ : MethodName) (head1 (Jvm.Cond.code (⟨"com/example/roomwire/roomwire/core/NightState", "maxStay", "()Ljava/lang/Integer;"⟩ : MethodName) prog_25_method_16_code 1 (some (.object "java/lang/Integer")) :: ws) ({ frames := 0, cells := 0, slots := 0, locals := 0 } : Room)) (fun a U => a = #[(.ref a1_)] ∧ Z.Warmed39 U.vm ∧ U.heap = h0) (fun _ _ _ _ _ => True) (fun _ U o U' => ∃ v L, o = .returned v ∧ Q_rm20 Z wO wC wI cB a1_ u h0 n0 v U'.heap L ∧ FrameEnd U o U' L ({ frames := 0, cells := 0, slots := 0, locals := 0 } : Room).cells ({ frames := 0, cells := 0, slots := 0, locals := 0 } : Room).slots) := by
  refine MetFree.of_bodySF (plainFor_of_name pn_8) hisR ?_
  intro p e s m args below meth c s₁ Bd hml0 hP hK
  obtain ⟨rfl, hZ, hh⟩ := hP
  have hx := Bd.exec
  have hby := Bd.bytes
  have hml : c.maxLocals = 1 := hml0
  have hown : s.vm.findClass "com/example/roomwire/roomwire/core/NightState" = some m.cls := findClass_of_methodNamed Bd.named
  have hnm := (name_of_methodNamed Bd.named Bd.method).1
  have X0 : Stand p l e ({ frames := 0, cells := 0, slots := 0, locals := 0 } : Room) s m #[(.ref a1_)] below meth c s₁ [] 0 0 := Stand.of_body Bd
  have e0 : s₁.heap = h0 := by rw [← hh, Bd.state]; rfl
  have N0 := Fr.nil n0
  have K0 := Keep.refl h0 ([] : List Addr)
  have G_ := G
  obtain ⟨S_Status_OPEN, E_wO, S_Status_CLOSED, E_wC, S_Integer_IntegerCache_cache, E_wI, S_Integer_IntegerCache_high, BX, G_end⟩ := G_
  change own_Go p e below _ _
  refine own_go (B := s₁.setTop (mkF m 0 #[.val (.ref a1_)] [])) (fun _ k => castTop (ef_rm20 m a1_) k) ?_
  refine own_go (B := s₁.setTop (mkF m 1 #[.val (.ref a1_)] [(.ref a1_)])) (fun _ k => XS.aloadN X0.here hx rfl (hb hby d20_0) rfl rfl k) ?_
  obtain ⟨T101, X101, e101, st101⟩ := getF X0 hx hZ hown (host := "") (Or.inl (hw _ (List.mem_of_getElem? (i := 56) rfl))) Via.refl e0 F (g := (mkF m 1 #[.val (.ref a1_)] [(.ref a1_)])) rfl rfl (hb hby d20_1)
  refine own_go (B := T101.setTop (mkF m 4 #[.val (.ref a1_)] [u])) (st101) ?_
  obtain ⟨fs, hr, hrun, hended, hW, hsame⟩ := X101.leave (v := some u) (fun h => by rw [Bd.returns] at h; cases h)
  refine ⟨_, _, retOut X101 hx Bd.returns rfl (Or.inr (Or.inr (Or.inr (Or.inr ⟨rfl, rfl, hu⟩)))) (hb hby d20_4) hr, hrun, hended, _, _, rfl, ?_, ⟨_, rfl⟩, hW, hsame.mono (by decide) (by decide)⟩
  show Q_rm20 Z wO wC wI cB a1_ _ h0 n0 _ T101.heap _
  rw [e101]
  exact ⟨rfl, N0, rfl⟩
theorem d14_0 : decode jdk_33_method_27_code 0 = .ok (.aload_n 0, 1) := by decide +kernel
theorem d14_1 : decode jdk_33_method_27_code 1 = .ok (.getfield 205, 3) := by decide +kernel
theorem d14_4 : decode jdk_33_method_27_code 4 = .ok (.ireturn, 1) := by decide +kernel
theorem ef_rm14 (m : MethodId) (a1_ : Addr) : entryFrame m #[(.ref a1_)] 1 = mkF m 0 #[.val (.ref a1_)] [] := by first | (simp [entryFrame, mkF, argsToLocals, Value.category]; done) | rfl
def Q_rm14 (Z : State) (wO : Addr) (wC : Addr) (wI : Addr) (cB : Cell) (a1_ : Addr) (n : Int32) (h0 : Heap) (n0 : Nat) (v : Option Value) (h : Heap) (L : List Loc) : Prop := v = some (.int n) ∧ Fr n0 L ∧ h = h0
set_option maxRecDepth 65536 in
set_option maxHeartbeats 40000000 in
theorem rm14 (l : Launch) (Z : State) (a0 : Array Value) (hw : ∀ d ∈ tables_1, d.before a0 Z = true) (ws : List Jvm.Cond) (wO : Addr) (wC : Addr) (wI : Addr) (cB : Cell) (G : own_G Z wO wC wI cB) (a1_ : Addr) (n : Int32) (h0 : Heap) (n0 : Nat) (Z0 : n0 ≤ h0.size) (O0 : Old Z n0 h0) (F : Fld Z h0 a1_ "java/lang/Integer" "value" "I" (.int n)) :
    MetFree l (⟨"java/lang/Integer", "intValue", "()I"⟩ : MethodName) (head1 (Jvm.Cond.code (⟨"java/lang/Integer", "intValue", "()I"⟩ : MethodName) jdk_33_method_27_code 1 (some .int) :: ws) ({ frames := 0, cells := 0, slots := 0, locals := 0 } : Room)) (fun a U => a = #[(.ref a1_)] ∧ Z.Warmed39 U.vm ∧ U.heap = h0) (fun _ _ _ _ _ => True) (fun _ U o U' => ∃ v L, o = .returned v ∧ Q_rm14 Z wO wC wI cB a1_ n h0 n0 v U'.heap L ∧ FrameEnd U o U' L ({ frames := 0, cells := 0, slots := 0, locals := 0 } : Room).cells ({ frames := 0, cells := 0, slots := 0, locals := 0 } : Room).slots) := by
  refine MetFree.of_bodySF (plainFor_of_name pn_5) hisR ?_
  intro p e s m args below meth c s₁ Bd hml0 hP hK
  obtain ⟨rfl, hZ, hh⟩ := hP
  have hx := Bd.exec
  have hby := Bd.bytes
  have hml : c.maxLocals = 1 := hml0
  have hown : s.vm.findClass "java/lang/Integer" = some m.cls := findClass_of_methodNamed Bd.named
  have hnm := (name_of_methodNamed Bd.named Bd.method).1
  have X0 : Stand p l e ({ frames := 0, cells := 0, slots := 0, locals := 0 } : Room) s m #[(.ref a1_)] below meth c s₁ [] 0 0 := Stand.of_body Bd
  have e0 : s₁.heap = h0 := by rw [← hh, Bd.state]; rfl
  have N0 := Fr.nil n0
  have K0 := Keep.refl h0 ([] : List Addr)
  have G_ := G
  obtain ⟨S_Status_OPEN, E_wO, S_Status_CLOSED, E_wC, S_Integer_IntegerCache_cache, E_wI, S_Integer_IntegerCache_high, BX, G_end⟩ := G_
  change own_Go p e below _ _
  refine own_go (B := s₁.setTop (mkF m 0 #[.val (.ref a1_)] [])) (fun _ k => castTop (ef_rm14 m a1_) k) ?_
  refine own_go (B := s₁.setTop (mkF m 1 #[.val (.ref a1_)] [(.ref a1_)])) (fun _ k => XS.aloadN X0.here hx rfl (hb hby d14_0) rfl rfl k) ?_
  obtain ⟨T101, X101, e101, st101⟩ := getF X0 hx hZ hown (host := "") (Or.inl (hw _ (List.mem_of_getElem? (i := 35) rfl))) Via.refl e0 F (g := (mkF m 1 #[.val (.ref a1_)] [(.ref a1_)])) rfl rfl (hb hby d14_1)
  refine own_go (B := T101.setTop (mkF m 4 #[.val (.ref a1_)] [(.int n)])) (st101) ?_
  obtain ⟨fs, hr, hrun, hended, hW, hsame⟩ := X101.leave (v := some (.int n)) (fun h => by rw [Bd.returns] at h; cases h)
  refine ⟨_, _, retI X101 hx Bd.returns (hb hby d14_4) hr, hrun, hended, _, _, rfl, ?_, ⟨_, rfl⟩, hW, hsame.mono (by decide) (by decide)⟩
  show Q_rm14 Z wO wC wI cB a1_ n h0 n0 _ T101.heap _
  rw [e101]
  exact ⟨rfl, N0, rfl⟩
theorem pd_6 : parseMethodDescriptor "()I" = some ⟨[], some .int⟩ := by decide +kernel
theorem d13_0 : decode method_6_code 0 = .ok (.iload_n 1, 1) := by decide +kernel
theorem d13_1 : decode method_6_code 1 = .ok (.iload_n 2, 1) := by decide +kernel
theorem d13_2 : decode method_6_code 2 = .ok (.iushr, 1) := by decide +kernel
theorem d13_3 : decode method_6_code 3 = .ok (.iconst 1, 1) := by decide +kernel
theorem d13_4 : decode method_6_code 4 = .ok (.iand, 1) := by decide +kernel
theorem d13_5 : decode method_6_code 5 = .ok (.ifCond .ne 21, 3) := by decide +kernel
theorem d13_8 : decode method_6_code 8 = .ok (.aload_n 0, 1) := by decide +kernel
theorem d13_9 : decode method_6_code 9 = .ok (.ifnull 15, 3) := by decide +kernel
theorem d13_12 : decode method_6_code 12 = .ok (.aload_n 0, 1) := by decide +kernel
theorem d13_13 : decode method_6_code 13 = .ok (.invokevirtual 73, 3) := by decide +kernel
theorem d13_16 : decode method_6_code 16 = .ok (.iload_n 3, 1) := by decide +kernel
theorem d13_17 : decode method_6_code 17 = .ok (.if_icmp .ne 7, 3) := by decide +kernel
theorem d13_20 : decode method_6_code 20 = .ok (.iconst 1, 1) := by decide +kernel
theorem d13_21 : decode method_6_code 21 = .ok (.goto 4, 3) := by decide +kernel
theorem d13_25 : decode method_6_code 25 = .ok (.ireturn, 1) := by decide +kernel
theorem d13_26 : decode method_6_code 26 = .ok (.iload_n 1, 1) := by decide +kernel
theorem d13_27 : decode method_6_code 27 = .ok (.iload 4, 2) := by decide +kernel
theorem d13_29 : decode method_6_code 29 = .ok (.iushr, 1) := by decide +kernel
theorem d13_30 : decode method_6_code 30 = .ok (.iconst 1, 1) := by decide +kernel
theorem d13_31 : decode method_6_code 31 = .ok (.iand, 1) := by decide +kernel
theorem d13_32 : decode method_6_code 32 = .ok (.ifCond .ne 22, 3) := by decide +kernel
theorem d13_35 : decode method_6_code 35 = .ok (.aload_n 0, 1) := by decide +kernel
theorem d13_36 : decode method_6_code 36 = .ok (.ifnull 16, 3) := by decide +kernel
theorem d13_39 : decode method_6_code 39 = .ok (.aload_n 0, 1) := by decide +kernel
theorem d13_40 : decode method_6_code 40 = .ok (.invokevirtual 73, 3) := by decide +kernel
theorem d13_43 : decode method_6_code 43 = .ok (.iload 5, 2) := by decide +kernel
theorem d13_45 : decode method_6_code 45 = .ok (.if_icmp .ne 7, 3) := by decide +kernel
theorem d13_48 : decode method_6_code 48 = .ok (.iconst 1, 1) := by decide +kernel
theorem d13_49 : decode method_6_code 49 = .ok (.goto 4, 3) := by decide +kernel
theorem d13_53 : decode method_6_code 53 = .ok (.ireturn, 1) := by decide +kernel
theorem d13_54 : decode method_6_code 54 = .ok (.aload_n 0, 1) := by decide +kernel
theorem d13_55 : decode method_6_code 55 = .ok (.ifnonnull 7, 3) := by decide +kernel
theorem d13_58 : decode method_6_code 58 = .ok (.iconst 1, 1) := by decide +kernel
theorem d13_59 : decode method_6_code 59 = .ok (.goto 4, 3) := by decide +kernel
theorem d13_63 : decode method_6_code 63 = .ok (.ireturn, 1) := by decide +kernel
theorem ef_rm13 (m : MethodId) (u : Value) (p1 : Int32) (p2 : Int32) (p3 : Int32) (p4 : Int32) (p5 : Int32) (hu : u.isRef = true) : entryFrame m #[u, (.int p1), (.int p2), (.int p3), (.int p4), (.int p5)] 6 = mkF m 0 #[.val u, .val (.int p1), .val (.int p2), .val (.int p3), .val (.int p4), .val (.int p5)] [] := by (rcases Jvm.Free.XT.refc hu with rfl | ⟨_, rfl⟩) <;> first | (simp [entryFrame, mkF, argsToLocals, Value.category]; done) | rfl
def Q_rm13 (Z : State) (wO : Addr) (wC : Addr) (wI : Addr) (cB : Cell) (u : Value) (p1 : Int32) (p2 : Int32) (p3 : Int32) (p4 : Int32) (p5 : Int32) (h0 : Heap) (n0 : Nat) (v : Option Value) (h : Heap) (L : List Loc) : Prop := v = some (.int (1 : Int32)) ∧ Fr n0 L ∧ h = h0
set_option maxRecDepth 65536 in
set_option maxHeartbeats 40000000 in
theorem rm13 (l : Launch) (Z : State) (a0 : Array Value) (hw : ∀ d ∈ tables_1, d.before a0 Z = true) (ws : List Jvm.Cond) (wO : Addr) (wC : Addr) (wI : Addr) (cB : Cell) (G : own_G Z wO wC wI cB) (u : Value) (p1 : Int32) (p2 : Int32) (p3 : Int32) (p4 : Int32) (p5 : Int32) (h0 : Heap) (n0 : Nat) (Z0 : n0 ≤ h0.size) (O0 : Old Z n0 h0) (hu : u.isRef = true) (NI : own_ni Z h0 u (if ((p1.toUInt32 >>> (p2 &&& 31).toUInt32).toInt32 &&& (1 : Int32)) = 0 then some p3 else if ((p1.toUInt32 >>> (p4 &&& 31).toUInt32).toInt32 &&& (1 : Int32)) = 0 then some p5 else none)) :
    MetFree l (⟨"com/example/roomwire/roomwire/core/NightStateOverlayPinLaw", "intIs", "(Ljava/lang/Integer;IIIII)Z"⟩ : MethodName) (head1 (Jvm.Cond.code (⟨"com/example/roomwire/roomwire/core/NightStateOverlayPinLaw", "intIs", "(Ljava/lang/Integer;IIIII)Z"⟩ : MethodName) method_6_code 6 (some .boolean) :: ws) ({ frames := 1, cells := 0, slots := 0, locals := 12 } : Room)) (fun a U => a = #[u, (.int p1), (.int p2), (.int p3), (.int p4), (.int p5)] ∧ Z.Warmed39 U.vm ∧ U.heap = h0) (fun _ _ _ _ _ => True) (fun _ U o U' => ∃ v L, o = .returned v ∧ Q_rm13 Z wO wC wI cB u p1 p2 p3 p4 p5 h0 n0 v U'.heap L ∧ FrameEnd U o U' L ({ frames := 1, cells := 0, slots := 0, locals := 12 } : Room).cells ({ frames := 1, cells := 0, slots := 0, locals := 12 } : Room).slots) := by
  refine MetFree.of_bodySF (plainFor_of_name pn_1) hisR ?_
  intro p e s m args below meth c s₁ Bd hml0 hP hK
  obtain ⟨rfl, hZ, hh⟩ := hP
  have hx := Bd.exec
  have hby := Bd.bytes
  have hml : c.maxLocals = 6 := hml0
  have hown : s.vm.findClass "com/example/roomwire/roomwire/core/NightStateOverlayPinLaw" = some m.cls := findClass_of_methodNamed Bd.named
  have hnm := (name_of_methodNamed Bd.named Bd.method).1
  have X0 : Stand p l e ({ frames := 1, cells := 0, slots := 0, locals := 12 } : Room) s m #[u, (.int p1), (.int p2), (.int p3), (.int p4), (.int p5)] below meth c s₁ [] 0 0 := Stand.of_body Bd
  have e0 : s₁.heap = h0 := by rw [← hh, Bd.state]; rfl
  have N0 := Fr.nil n0
  have K0 := Keep.refl h0 ([] : List Addr)
  have G_ := G
  obtain ⟨S_Status_OPEN, E_wO, S_Status_CLOSED, E_wC, S_Integer_IntegerCache_cache, E_wI, S_Integer_IntegerCache_high, BX, G_end⟩ := G_
  change own_Go p e below _ _
  refine own_go (B := s₁.setTop (mkF m 0 #[.val u, .val (.int p1), .val (.int p2), .val (.int p3), .val (.int p4), .val (.int p5)] [])) (fun _ k => castTop (ef_rm13 m u p1 p2 p3 p4 p5 hu) k) ?_
  refine own_go (B := s₁.setTop (mkF m 1 #[.val u, .val (.int p1), .val (.int p2), .val (.int p3), .val (.int p4), .val (.int p5)] [(.int p1)])) (fun _ k => XS.iloadN X0.here hx rfl (hb hby d13_0) rfl k) ?_
  refine own_go (B := s₁.setTop (mkF m 2 #[.val u, .val (.int p1), .val (.int p2), .val (.int p3), .val (.int p4), .val (.int p5)] [(.int p2), (.int p1)])) (fun _ k => XS.iloadN X0.here hx rfl (hb hby d13_1) rfl k) ?_
  refine own_go (B := s₁.setTop (mkF m 3 #[.val u, .val (.int p1), .val (.int p2), .val (.int p3), .val (.int p4), .val (.int p5)] [(.int ((p1.toUInt32 >>> (p2 &&& 31).toUInt32).toInt32))])) (fun _ k => XS.iushr X0.here hx rfl (hb hby d13_2) rfl k) ?_
  refine own_go (B := s₁.setTop (mkF m 4 #[.val u, .val (.int p1), .val (.int p2), .val (.int p3), .val (.int p4), .val (.int p5)] [(.int (1 : Int32)), (.int ((p1.toUInt32 >>> (p2 &&& 31).toUInt32).toInt32))])) (fun _ k => XS.iconst X0.here hx rfl (hb hby d13_3) k) ?_
  refine own_go (B := s₁.setTop (mkF m 5 #[.val u, .val (.int p1), .val (.int p2), .val (.int p3), .val (.int p4), .val (.int p5)] [(.int (((p1.toUInt32 >>> (p2 &&& 31).toUInt32).toInt32) &&& (1 : Int32)))])) (fun _ k => XS.iand X0.here hx rfl (hb hby d13_4) rfl k) ?_
  by_cases hc5 : (((p1.toUInt32 >>> (p2 &&& 31).toUInt32).toInt32) &&& (1 : Int32)) = (0 : Int32)
  · refine own_go (B := s₁.setTop (mkF m 8 #[.val u, .val (.int p1), .val (.int p2), .val (.int p3), .val (.int p4), .val (.int p5)] [])) (fun _ k => XS.ifNo X0.here hx rfl (hb hby d13_5) rfl ((if0 _ _).trans (teq hc5).2) k) ?_
    rw [if_pos hc5] at NI
    obtain ⟨r, rfl, Er, Fr_⟩ := NI
    refine own_go (B := s₁.setTop (mkF m 9 #[.val (.ref r), .val (.int p1), .val (.int p2), .val (.int p3), .val (.int p4), .val (.int p5)] [(.ref r)])) (fun _ k => XS.aloadN X0.here hx rfl (hb hby d13_8) rfl rfl k) ?_
    refine own_go (B := s₁.setTop (mkF m 12 #[.val (.ref r), .val (.int p1), .val (.int p2), .val (.int p3), .val (.int p4), .val (.int p5)] [])) (fun _ k => XS.ifnullNo X0.here hx rfl (hb hby d13_9) rfl k) ?_
    refine own_go (B := s₁.setTop (mkF m 13 #[.val (.ref r), .val (.int p1), .val (.int p2), .val (.int p3), .val (.int p4), .val (.int p5)] [(.ref r)])) (fun _ k => XS.aloadN X0.here hx rfl (hb hby d13_12) rfl rfl k) ?_
    obtain ⟨cq101, kq101, q101a, q101b, q101c⟩ := isOf hZ e0 Er
    obtain ⟨_, _, ⟨T101, L101, k101, n101⟩, -, X101, ⟨Lc101, hQ101, l101, y101, z101⟩, st101⟩ := X0.virtualBack hx (y := (⟨"java/lang/Integer", "intValue", "()I"⟩ : MethodName)) (z := (⟨"java/lang/Integer", "intValue", "()I"⟩ : MethodName)) hown (mvT hZ (hw _ (List.mem_of_getElem? (i := 77) rfl))) (mvT hZ (hw _ (List.mem_of_getElem? (i := 78) rfl))) (notFace_of_selects (args := #[]) (mvT hZ (hw _ (List.mem_of_getElem? (i := 80) rfl)))) (mvT hZ (hw _ (List.mem_of_getElem? (i := 80) rfl))) (mvT hZ (hw _ (List.mem_of_getElem? (i := 79) rfl))) (by decide) (backOf (W := 0) (rm14 l Z a0 hw [] wO wC wI cB G r p3 h0 n0 (Nat.le_trans Z0 K0.1) O0 Fr_) hZ (hw _ (List.mem_of_getElem? (i := 81) rfl)) (hw _ (List.mem_of_getElem? (i := 9) rfl)) (by decide) (by decide)) q101a q101c (g := (mkF m 13 #[.val (.ref r), .val (.int p1), .val (.int p2), .val (.int p3), .val (.int p4), .val (.int p5)] [(.ref r)])) rfl (by rw [hml]; rfl) (Steps.refl _) (argsL := []) (rest := []) (lenOf pd_6 rfl) rfl (by show 2 * 0 + _ ≤ _; exact Nat.le_of_eq rfl) (hb hby d13_13) (fun _ _ => ⟨rfl, e0, (by decide : 0 + 0 ≤ 0), (by decide : 0 + 0 ≤ 0)⟩)
    dsimp only [Pt.U, Pt.locs, Pt.cells, Pt.slots] at X101 l101 y101 z101 st101 hQ101
    rw [l101, y101, z101] at X101
    obtain ⟨rfl, N101q, K101⟩ := hQ101
    have N101 := Fr.app N0 N101q
    have e101 : T101.heap = h0 := K101
    refine own_go (B := T101.setTop (mkF m 16 #[.val (.ref r), .val (.int p1), .val (.int p2), .val (.int p3), .val (.int p4), .val (.int p5)] [(.int p3)])) (fun _ k => st101.trans k) ?_
    refine own_go (B := T101.setTop (mkF m 17 #[.val (.ref r), .val (.int p1), .val (.int p2), .val (.int p3), .val (.int p4), .val (.int p5)] [(.int p3), (.int p3)])) (fun _ k => XS.iloadN X101.here hx rfl (hb hby d13_16) rfl k) ?_
    refine own_go (B := T101.setTop (mkF m 20 #[.val (.ref r), .val (.int p1), .val (.int p2), .val (.int p3), .val (.int p4), .val (.int p5)] [])) (fun _ k => XS.icmpNo X101.here hx rfl (hb hby d13_17) rfl (teq rfl).2 k) ?_
    refine own_go (B := T101.setTop (mkF m 21 #[.val (.ref r), .val (.int p1), .val (.int p2), .val (.int p3), .val (.int p4), .val (.int p5)] [(.int (1 : Int32))])) (fun _ k => XS.iconst X101.here hx rfl (hb hby d13_20) k) ?_
    refine own_go (B := T101.setTop (mkF m 25 #[.val (.ref r), .val (.int p1), .val (.int p2), .val (.int p3), .val (.int p4), .val (.int p5)] [(.int (1 : Int32))])) (fun _ k => XS.goto X101.here hx rfl (pc0 := 21) (pc' := 25) rfl (hb hby d13_21) (by decide) (by decide) k) ?_
    obtain ⟨fs, hr, hrun, hended, hW, hsame⟩ := X101.leave (v := some (.int (nar .boolean (1 : Int32)))) (fun h => by rw [Bd.returns] at h; cases h)
    refine ⟨_, _, retN X101 hx (t := .boolean) Bd.returns (by simp) (hb hby d13_25) hr, hrun, hended, _, _, rfl, ?_, ⟨_, rfl⟩, hW, hsame.mono (by decide) (by decide)⟩
    show Q_rm13 Z wO wC wI cB _ p1 p2 p3 p4 p5 h0 n0 _ T101.heap _
    rw [e101]
    exact ⟨rfl, N101, rfl⟩
  · refine own_go (B := s₁.setTop (mkF m 26 #[.val u, .val (.int p1), .val (.int p2), .val (.int p3), .val (.int p4), .val (.int p5)] [])) (fun _ k => XS.ifYes X0.here hx rfl (pc0 := 5) (pc' := 26) rfl (hb hby d13_5) rfl ((if0 _ _).trans (feq hc5).2) (by decide) (by decide) k) ?_
    refine own_go (B := s₁.setTop (mkF m 27 #[.val u, .val (.int p1), .val (.int p2), .val (.int p3), .val (.int p4), .val (.int p5)] [(.int p1)])) (fun _ k => XS.iloadN X0.here hx rfl (hb hby d13_26) rfl k) ?_
    refine own_go (B := s₁.setTop (mkF m 29 #[.val u, .val (.int p1), .val (.int p2), .val (.int p3), .val (.int p4), .val (.int p5)] [(.int p4), (.int p1)])) (fun _ k => XS.iload X0.here hx rfl (hb hby d13_27) rfl k) ?_
    refine own_go (B := s₁.setTop (mkF m 30 #[.val u, .val (.int p1), .val (.int p2), .val (.int p3), .val (.int p4), .val (.int p5)] [(.int ((p1.toUInt32 >>> (p4 &&& 31).toUInt32).toInt32))])) (fun _ k => XS.iushr X0.here hx rfl (hb hby d13_29) rfl k) ?_
    refine own_go (B := s₁.setTop (mkF m 31 #[.val u, .val (.int p1), .val (.int p2), .val (.int p3), .val (.int p4), .val (.int p5)] [(.int (1 : Int32)), (.int ((p1.toUInt32 >>> (p4 &&& 31).toUInt32).toInt32))])) (fun _ k => XS.iconst X0.here hx rfl (hb hby d13_30) k) ?_
    refine own_go (B := s₁.setTop (mkF m 32 #[.val u, .val (.int p1), .val (.int p2), .val (.int p3), .val (.int p4), .val (.int p5)] [(.int (((p1.toUInt32 >>> (p4 &&& 31).toUInt32).toInt32) &&& (1 : Int32)))])) (fun _ k => XS.iand X0.here hx rfl (hb hby d13_31) rfl k) ?_
    by_cases hc32 : (((p1.toUInt32 >>> (p4 &&& 31).toUInt32).toInt32) &&& (1 : Int32)) = (0 : Int32)
    · refine own_go (B := s₁.setTop (mkF m 35 #[.val u, .val (.int p1), .val (.int p2), .val (.int p3), .val (.int p4), .val (.int p5)] [])) (fun _ k => XS.ifNo X0.here hx rfl (hb hby d13_32) rfl ((if0 _ _).trans (teq hc32).2) k) ?_
      rw [if_neg hc5, if_pos hc32] at NI
      obtain ⟨r, rfl, Er, Fr_⟩ := NI
      refine own_go (B := s₁.setTop (mkF m 36 #[.val (.ref r), .val (.int p1), .val (.int p2), .val (.int p3), .val (.int p4), .val (.int p5)] [(.ref r)])) (fun _ k => XS.aloadN X0.here hx rfl (hb hby d13_35) rfl rfl k) ?_
      refine own_go (B := s₁.setTop (mkF m 39 #[.val (.ref r), .val (.int p1), .val (.int p2), .val (.int p3), .val (.int p4), .val (.int p5)] [])) (fun _ k => XS.ifnullNo X0.here hx rfl (hb hby d13_36) rfl k) ?_
      refine own_go (B := s₁.setTop (mkF m 40 #[.val (.ref r), .val (.int p1), .val (.int p2), .val (.int p3), .val (.int p4), .val (.int p5)] [(.ref r)])) (fun _ k => XS.aloadN X0.here hx rfl (hb hby d13_39) rfl rfl k) ?_
      obtain ⟨cq102, kq102, q102a, q102b, q102c⟩ := isOf hZ e0 Er
      obtain ⟨_, _, ⟨T102, L102, k102, n102⟩, -, X102, ⟨Lc102, hQ102, l102, y102, z102⟩, st102⟩ := X0.virtualBack hx (y := (⟨"java/lang/Integer", "intValue", "()I"⟩ : MethodName)) (z := (⟨"java/lang/Integer", "intValue", "()I"⟩ : MethodName)) hown (mvT hZ (hw _ (List.mem_of_getElem? (i := 77) rfl))) (mvT hZ (hw _ (List.mem_of_getElem? (i := 78) rfl))) (notFace_of_selects (args := #[]) (mvT hZ (hw _ (List.mem_of_getElem? (i := 80) rfl)))) (mvT hZ (hw _ (List.mem_of_getElem? (i := 80) rfl))) (mvT hZ (hw _ (List.mem_of_getElem? (i := 79) rfl))) (by decide) (backOf (W := 0) (rm14 l Z a0 hw [] wO wC wI cB G r p5 h0 n0 (Nat.le_trans Z0 K0.1) O0 Fr_) hZ (hw _ (List.mem_of_getElem? (i := 81) rfl)) (hw _ (List.mem_of_getElem? (i := 9) rfl)) (by decide) (by decide)) q102a q102c (g := (mkF m 40 #[.val (.ref r), .val (.int p1), .val (.int p2), .val (.int p3), .val (.int p4), .val (.int p5)] [(.ref r)])) rfl (by rw [hml]; rfl) (Steps.refl _) (argsL := []) (rest := []) (lenOf pd_6 rfl) rfl (by show 2 * 0 + _ ≤ _; exact Nat.le_of_eq rfl) (hb hby d13_40) (fun _ _ => ⟨rfl, e0, (by decide : 0 + 0 ≤ 0), (by decide : 0 + 0 ≤ 0)⟩)
      dsimp only [Pt.U, Pt.locs, Pt.cells, Pt.slots] at X102 l102 y102 z102 st102 hQ102
      rw [l102, y102, z102] at X102
      obtain ⟨rfl, N102q, K102⟩ := hQ102
      have N102 := Fr.app N0 N102q
      have e102 : T102.heap = h0 := K102
      refine own_go (B := T102.setTop (mkF m 43 #[.val (.ref r), .val (.int p1), .val (.int p2), .val (.int p3), .val (.int p4), .val (.int p5)] [(.int p5)])) (fun _ k => st102.trans k) ?_
      refine own_go (B := T102.setTop (mkF m 45 #[.val (.ref r), .val (.int p1), .val (.int p2), .val (.int p3), .val (.int p4), .val (.int p5)] [(.int p5), (.int p5)])) (fun _ k => XS.iload X102.here hx rfl (hb hby d13_43) rfl k) ?_
      refine own_go (B := T102.setTop (mkF m 48 #[.val (.ref r), .val (.int p1), .val (.int p2), .val (.int p3), .val (.int p4), .val (.int p5)] [])) (fun _ k => XS.icmpNo X102.here hx rfl (hb hby d13_45) rfl (teq rfl).2 k) ?_
      refine own_go (B := T102.setTop (mkF m 49 #[.val (.ref r), .val (.int p1), .val (.int p2), .val (.int p3), .val (.int p4), .val (.int p5)] [(.int (1 : Int32))])) (fun _ k => XS.iconst X102.here hx rfl (hb hby d13_48) k) ?_
      refine own_go (B := T102.setTop (mkF m 53 #[.val (.ref r), .val (.int p1), .val (.int p2), .val (.int p3), .val (.int p4), .val (.int p5)] [(.int (1 : Int32))])) (fun _ k => XS.goto X102.here hx rfl (pc0 := 49) (pc' := 53) rfl (hb hby d13_49) (by decide) (by decide) k) ?_
      obtain ⟨fs, hr, hrun, hended, hW, hsame⟩ := X102.leave (v := some (.int (nar .boolean (1 : Int32)))) (fun h => by rw [Bd.returns] at h; cases h)
      refine ⟨_, _, retN X102 hx (t := .boolean) Bd.returns (by simp) (hb hby d13_53) hr, hrun, hended, _, _, rfl, ?_, ⟨_, rfl⟩, hW, hsame.mono (by decide) (by decide)⟩
      show Q_rm13 Z wO wC wI cB _ p1 p2 p3 p4 p5 h0 n0 _ T102.heap _
      rw [e102]
      exact ⟨rfl, N102, rfl⟩
    · refine own_go (B := s₁.setTop (mkF m 54 #[.val u, .val (.int p1), .val (.int p2), .val (.int p3), .val (.int p4), .val (.int p5)] [])) (fun _ k => XS.ifYes X0.here hx rfl (pc0 := 32) (pc' := 54) rfl (hb hby d13_32) rfl ((if0 _ _).trans (feq hc32).2) (by decide) (by decide) k) ?_
      rw [if_neg hc5, if_neg hc32] at NI
      have hN : u = .null := NI
      subst hN
      refine own_go (B := s₁.setTop (mkF m 55 #[.val .null, .val (.int p1), .val (.int p2), .val (.int p3), .val (.int p4), .val (.int p5)] [.null])) (fun _ k => XS.aloadN X0.here hx rfl (hb hby d13_54) rfl rfl k) ?_
      refine own_go (B := s₁.setTop (mkF m 58 #[.val .null, .val (.int p1), .val (.int p2), .val (.int p3), .val (.int p4), .val (.int p5)] [])) (fun _ k => XS.ifnonnullNo X0.here hx rfl (hb hby d13_55) rfl k) ?_
      refine own_go (B := s₁.setTop (mkF m 59 #[.val .null, .val (.int p1), .val (.int p2), .val (.int p3), .val (.int p4), .val (.int p5)] [(.int (1 : Int32))])) (fun _ k => XS.iconst X0.here hx rfl (hb hby d13_58) k) ?_
      refine own_go (B := s₁.setTop (mkF m 63 #[.val .null, .val (.int p1), .val (.int p2), .val (.int p3), .val (.int p4), .val (.int p5)] [(.int (1 : Int32))])) (fun _ k => XS.goto X0.here hx rfl (pc0 := 59) (pc' := 63) rfl (hb hby d13_59) (by decide) (by decide) k) ?_
      obtain ⟨fs, hr, hrun, hended, hW, hsame⟩ := X0.leave (v := some (.int (nar .boolean (1 : Int32)))) (fun h => by rw [Bd.returns] at h; cases h)
      refine ⟨_, _, retN X0 hx (t := .boolean) Bd.returns (by simp) (hb hby d13_63) hr, hrun, hended, _, _, rfl, ?_, ⟨_, rfl⟩, hW, hsame.mono (by decide) (by decide)⟩
      show Q_rm13 Z wO wC wI cB _ p1 p2 p3 p4 p5 h0 n0 _ s₁.heap _
      rw [e0]
      exact ⟨rfl, N0, rfl⟩
theorem d16_0 : decode method_7_code 0 = .ok (.iload_n 1, 1) := by decide +kernel
theorem d16_1 : decode method_7_code 1 = .ok (.iload_n 2, 1) := by decide +kernel
theorem d16_2 : decode method_7_code 2 = .ok (.invokestatic 60, 3) := by decide +kernel
theorem d16_5 : decode method_7_code 5 = .ok (.istore 4, 2) := by decide +kernel
theorem d16_7 : decode method_7_code 7 = .ok (.iload 4, 2) := by decide +kernel
theorem d16_9 : decode method_7_code 9 = .ok (.ifCond .ne 10, 3) := by decide +kernel
theorem d16_12 : decode method_7_code 12 = .ok (.iload_n 1, 1) := by decide +kernel
theorem d16_13 : decode method_7_code 13 = .ok (.iload_n 3, 1) := by decide +kernel
theorem d16_14 : decode method_7_code 14 = .ok (.invokestatic 60, 3) := by decide +kernel
theorem d16_17 : decode method_7_code 17 = .ok (.istore 4, 2) := by decide +kernel
theorem d16_19 : decode method_7_code 19 = .ok (.iload 4, 2) := by decide +kernel
theorem d16_21 : decode method_7_code 21 = .ok (.iconst 1, 1) := by decide +kernel
theorem d16_22 : decode method_7_code 22 = .ok (.if_icmp .ne 16, 3) := by decide +kernel
theorem d16_25 : decode method_7_code 25 = .ok (.aload_n 0, 1) := by decide +kernel
theorem d16_26 : decode method_7_code 26 = .ok (.getstatic 64, 3) := by decide +kernel
theorem d16_29 : decode method_7_code 29 = .ok (.if_acmp .ne 7, 3) := by decide +kernel
theorem d16_32 : decode method_7_code 32 = .ok (.iconst 1, 1) := by decide +kernel
theorem d16_33 : decode method_7_code 33 = .ok (.goto 4, 3) := by decide +kernel
theorem d16_37 : decode method_7_code 37 = .ok (.ireturn, 1) := by decide +kernel
theorem d16_38 : decode method_7_code 38 = .ok (.iload 4, 2) := by decide +kernel
theorem d16_40 : decode method_7_code 40 = .ok (.iconst 2, 1) := by decide +kernel
theorem d16_41 : decode method_7_code 41 = .ok (.if_icmp .ne 16, 3) := by decide +kernel
theorem d16_44 : decode method_7_code 44 = .ok (.aload_n 0, 1) := by decide +kernel
theorem d16_45 : decode method_7_code 45 = .ok (.getstatic 70, 3) := by decide +kernel
theorem d16_48 : decode method_7_code 48 = .ok (.if_acmp .ne 7, 3) := by decide +kernel
theorem d16_51 : decode method_7_code 51 = .ok (.iconst 1, 1) := by decide +kernel
theorem d16_52 : decode method_7_code 52 = .ok (.goto 4, 3) := by decide +kernel
theorem d16_56 : decode method_7_code 56 = .ok (.ireturn, 1) := by decide +kernel
theorem d16_57 : decode method_7_code 57 = .ok (.aload_n 0, 1) := by decide +kernel
theorem d16_58 : decode method_7_code 58 = .ok (.ifnonnull 7, 3) := by decide +kernel
theorem d16_61 : decode method_7_code 61 = .ok (.iconst 1, 1) := by decide +kernel
theorem d16_62 : decode method_7_code 62 = .ok (.goto 4, 3) := by decide +kernel
theorem d16_66 : decode method_7_code 66 = .ok (.ireturn, 1) := by decide +kernel
theorem ef_rm16 (m : MethodId) (u : Value) (p1 : Int32) (p2 : Int32) (p3 : Int32) (hu : u.isRef = true) : entryFrame m #[u, (.int p1), (.int p2), (.int p3)] 5 = mkF m 0 #[.val u, .val (.int p1), .val (.int p2), .val (.int p3), .unset] [] := by (rcases Jvm.Free.XT.refc hu with rfl | ⟨_, rfl⟩) <;> first | (simp [entryFrame, mkF, argsToLocals, Value.category]; done) | rfl
def Q_rm16 (Z : State) (wO : Addr) (wC : Addr) (wI : Addr) (cB : Cell) (u : Value) (p1 : Int32) (p2 : Int32) (p3 : Int32) (h0 : Heap) (n0 : Nat) (v : Option Value) (h : Heap) (L : List Loc) : Prop := v = some (.int (1 : Int32)) ∧ Fr n0 L ∧ h = h0
set_option maxRecDepth 65536 in
set_option maxHeartbeats 40000000 in
theorem rm16 (l : Launch) (Z : State) (a0 : Array Value) (hw : ∀ d ∈ tables_1, d.before a0 Z = true) (ws : List Jvm.Cond) (wO : Addr) (wC : Addr) (wI : Addr) (cB : Cell) (G : own_G Z wO wC wI cB) (u : Value) (p1 : Int32) (p2 : Int32) (p3 : Int32) (h0 : Heap) (n0 : Nat) (Z0 : n0 ≤ h0.size) (O0 : Old Z n0 h0) (hu : u.isRef = true) (hv : u = own_pk (own_stv (own_code p1 p2) wO wC) (own_stv (own_code p1 p3) wO wC)) :
    MetFree l (⟨"com/example/roomwire/roomwire/core/NightStateOverlayPinLaw", "statusIs", "(Lcom/example/roomwire/roomwire/core/Status;III)Z"⟩ : MethodName) (head1 (Jvm.Cond.code (⟨"com/example/roomwire/roomwire/core/NightStateOverlayPinLaw", "statusIs", "(Lcom/example/roomwire/roomwire/core/Status;III)Z"⟩ : MethodName) method_7_code 5 (some .boolean) :: ws) ({ frames := 1, cells := 0, slots := 0, locals := 14 } : Room)) (fun a U => a = #[u, (.int p1), (.int p2), (.int p3)] ∧ Z.Warmed39 U.vm ∧ U.heap = h0) (fun _ _ _ _ _ => True) (fun _ U o U' => ∃ v L, o = .returned v ∧ Q_rm16 Z wO wC wI cB u p1 p2 p3 h0 n0 v U'.heap L ∧ FrameEnd U o U' L ({ frames := 1, cells := 0, slots := 0, locals := 14 } : Room).cells ({ frames := 1, cells := 0, slots := 0, locals := 14 } : Room).slots) := by
  refine MetFree.of_bodySF (plainFor_of_name pn_1) hisR ?_
  intro p e s m args below meth c s₁ Bd hml0 hP hK
  obtain ⟨rfl, hZ, hh⟩ := hP
  have hx := Bd.exec
  have hby := Bd.bytes
  have hml : c.maxLocals = 5 := hml0
  have hown : s.vm.findClass "com/example/roomwire/roomwire/core/NightStateOverlayPinLaw" = some m.cls := findClass_of_methodNamed Bd.named
  have hnm := (name_of_methodNamed Bd.named Bd.method).1
  have X0 : Stand p l e ({ frames := 1, cells := 0, slots := 0, locals := 14 } : Room) s m #[u, (.int p1), (.int p2), (.int p3)] below meth c s₁ [] 0 0 := Stand.of_body Bd
  have e0 : s₁.heap = h0 := by rw [← hh, Bd.state]; rfl
  have N0 := Fr.nil n0
  have K0 := Keep.refl h0 ([] : List Addr)
  have G_ := G
  obtain ⟨S_Status_OPEN, E_wO, S_Status_CLOSED, E_wC, S_Integer_IntegerCache_cache, E_wI, S_Integer_IntegerCache_high, BX, G_end⟩ := G_
  change own_Go p e below _ _
  refine own_go (B := s₁.setTop (mkF m 0 #[.val u, .val (.int p1), .val (.int p2), .val (.int p3), .unset] [])) (fun _ k => castTop (ef_rm16 m u p1 p2 p3 hu) k) ?_
  refine own_go (B := s₁.setTop (mkF m 1 #[.val u, .val (.int p1), .val (.int p2), .val (.int p3), .unset] [(.int p1)])) (fun _ k => XS.iloadN X0.here hx rfl (hb hby d16_0) rfl k) ?_
  refine own_go (B := s₁.setTop (mkF m 2 #[.val u, .val (.int p1), .val (.int p2), .val (.int p3), .unset] [(.int p2), (.int p1)])) (fun _ k => XS.iloadN X0.here hx rfl (hb hby d16_1) rfl k) ?_
  obtain ⟨_, _, ⟨T101, L101, k101, n101⟩, -, X101, ⟨Lc101, hQ101, l101, y101, z101⟩, st101⟩ := Jvm.LawKit.callS X0 hx (y := (⟨"com/example/roomwire/roomwire/core/NightStateOverlayPinLaw", "code", "(II)I"⟩ : MethodName)) hown (mvT hZ (hw _ (List.mem_of_getElem? (i := 17) rfl))) (mvT hZ (hw _ (List.mem_of_getElem? (i := 18) rfl))) (mvT hZ (hw _ (List.mem_of_getElem? (i := 5) rfl))) (mvT hZ (hw _ (List.mem_of_getElem? (i := 19) rfl))) (by decide) (backOf (W := 0) (rm4 l Z a0 hw [] wO wC wI cB G p1 p2 h0 n0 (Nat.le_trans Z0 K0.1) O0 ) hZ (hw _ (List.mem_of_getElem? (i := 19) rfl)) (hw _ (List.mem_of_getElem? (i := 5) rfl)) (by decide) (by decide)) (g := (mkF m 2 #[.val u, .val (.int p1), .val (.int p2), .val (.int p3), .unset] [(.int p2), (.int p1)])) rfl (by rw [hml]; rfl) (argsL := [(.int p1), (.int p2)]) (rest := []) (lenOf pd_3 rfl) rfl (by show 2 * 0 + _ ≤ _; exact Nat.le_of_eq rfl) (hb hby d16_2) (fun _ _ => ⟨rfl, e0, (by decide : 0 + 0 ≤ 0), (by decide : 0 + 0 ≤ 0)⟩)
  dsimp only [Pt.U, Pt.locs, Pt.cells, Pt.slots] at X101 l101 y101 z101 st101 hQ101
  rw [l101, y101, z101] at X101
  obtain ⟨rfl, N101q, K101⟩ := hQ101
  have N101 := Fr.app N0 N101q
  have e101 : T101.heap = h0 := K101
  refine own_go (B := T101.setTop (mkF m 5 #[.val u, .val (.int p1), .val (.int p2), .val (.int p3), .unset] [(.int (own_code p1 p2))])) (st101) ?_
  generalize hv5 : (own_code p1 p2) = v5
  refine own_go (B := T101.setTop (mkF m 7 #[.val u, .val (.int p1), .val (.int p2), .val (.int p3), .val (.int v5)] [])) (fun _ k => XS.istore X101.here hx rfl (hb hby d16_5) rfl (l' := #[.val u, .val (.int p1), .val (.int p2), .val (.int p3), .val (.int v5)]) rfl k) ?_
  refine own_go (B := T101.setTop (mkF m 9 #[.val u, .val (.int p1), .val (.int p2), .val (.int p3), .val (.int v5)] [(.int v5)])) (fun _ k => XS.iload X101.here hx rfl (hb hby d16_7) rfl k) ?_
  by_cases hc9 : v5 = (0 : Int32)
  · refine own_go (B := T101.setTop (mkF m 12 #[.val u, .val (.int p1), .val (.int p2), .val (.int p3), .val (.int v5)] [])) (fun _ k => XS.ifNo X101.here hx rfl (hb hby d16_9) rfl ((if0 _ _).trans (teq hc9).2) k) ?_
    refine own_go (B := T101.setTop (mkF m 13 #[.val u, .val (.int p1), .val (.int p2), .val (.int p3), .val (.int v5)] [(.int p1)])) (fun _ k => XS.iloadN X101.here hx rfl (hb hby d16_12) rfl k) ?_
    refine own_go (B := T101.setTop (mkF m 14 #[.val u, .val (.int p1), .val (.int p2), .val (.int p3), .val (.int v5)] [(.int p3), (.int p1)])) (fun _ k => XS.iloadN X101.here hx rfl (hb hby d16_13) rfl k) ?_
    obtain ⟨_, _, ⟨T102, L102, k102, n102⟩, -, X102, ⟨Lc102, hQ102, l102, y102, z102⟩, st102⟩ := Jvm.LawKit.callS X101 hx (y := (⟨"com/example/roomwire/roomwire/core/NightStateOverlayPinLaw", "code", "(II)I"⟩ : MethodName)) hown (mvT hZ (hw _ (List.mem_of_getElem? (i := 17) rfl))) (mvT hZ (hw _ (List.mem_of_getElem? (i := 18) rfl))) (mvT hZ (hw _ (List.mem_of_getElem? (i := 5) rfl))) (mvT hZ (hw _ (List.mem_of_getElem? (i := 19) rfl))) (by decide) (backOf (W := 0) (rm4 l Z a0 hw [] wO wC wI cB G p1 p3 h0 n0 (Nat.le_trans Z0 K0.1) O0 ) hZ (hw _ (List.mem_of_getElem? (i := 19) rfl)) (hw _ (List.mem_of_getElem? (i := 5) rfl)) (by decide) (by decide)) (g := (mkF m 14 #[.val u, .val (.int p1), .val (.int p2), .val (.int p3), .val (.int v5)] [(.int p3), (.int p1)])) rfl (by rw [hml]; rfl) (argsL := [(.int p1), (.int p3)]) (rest := []) (lenOf pd_3 rfl) rfl (by show 2 * 0 + _ ≤ _; exact Nat.le_of_eq rfl) (hb hby d16_14) (fun _ _ => ⟨rfl, e101, (by decide : 0 + 0 ≤ 0), (by decide : 0 + 0 ≤ 0)⟩)
    dsimp only [Pt.U, Pt.locs, Pt.cells, Pt.slots] at X102 l102 y102 z102 st102 hQ102
    rw [l102, y102, z102] at X102
    obtain ⟨rfl, N102q, K102⟩ := hQ102
    have N102 := Fr.app N101 N102q
    have e102 : T102.heap = h0 := K102
    refine own_go (B := T102.setTop (mkF m 17 #[.val u, .val (.int p1), .val (.int p2), .val (.int p3), .val (.int v5)] [(.int (own_code p1 p3))])) (st102) ?_
    generalize hv17 : (own_code p1 p3) = v17
    refine own_go (B := T102.setTop (mkF m 19 #[.val u, .val (.int p1), .val (.int p2), .val (.int p3), .val (.int v17)] [])) (fun _ k => XS.istore X102.here hx rfl (hb hby d16_17) rfl (l' := #[.val u, .val (.int p1), .val (.int p2), .val (.int p3), .val (.int v17)]) rfl k) ?_
    refine own_go (B := T102.setTop (mkF m 21 #[.val u, .val (.int p1), .val (.int p2), .val (.int p3), .val (.int v17)] [(.int v17)])) (fun _ k => XS.iload X102.here hx rfl (hb hby d16_19) rfl k) ?_
    refine own_go (B := T102.setTop (mkF m 22 #[.val u, .val (.int p1), .val (.int p2), .val (.int p3), .val (.int v17)] [(.int (1 : Int32)), (.int v17)])) (fun _ k => XS.iconst X102.here hx rfl (hb hby d16_21) k) ?_
    by_cases hc22 : v17 = (1 : Int32)
    · refine own_go (B := T102.setTop (mkF m 25 #[.val u, .val (.int p1), .val (.int p2), .val (.int p3), .val (.int v17)] [])) (fun _ k => XS.icmpNo X102.here hx rfl (hb hby d16_22) rfl (teq hc22).2 k) ?_
      refine own_go (B := T102.setTop (mkF m 26 #[.val u, .val (.int p1), .val (.int p2), .val (.int p3), .val (.int v17)] [u])) (fun _ k => XS.aloadN X102.here hx rfl (hb hby d16_25) rfl hu k) ?_
      obtain ⟨T103, X103, e103, st103⟩ := getS2 X102 hx hZ hown (host := "") (Or.inl (hw _ (List.mem_of_getElem? (i := 110) rfl))) Via.refl e102 (S_Status_OPEN.ext O0.2) (g := (mkF m 26 #[.val u, .val (.int p1), .val (.int p2), .val (.int p3), .val (.int v17)] [u])) rfl (hb hby d16_26)
      refine own_go (B := T103.setTop (mkF m 29 #[.val u, .val (.int p1), .val (.int p2), .val (.int p3), .val (.int v17)] [(.ref wO), u])) (st103) ?_
      refine own_go (B := T103.setTop (mkF m 32 #[.val u, .val (.int p1), .val (.int p2), .val (.int p3), .val (.int v17)] [])) (fun _ k => Jvm.RoadKit.acmp (g := (mkF m 29 #[.val u, .val (.int p1), .val (.int p2), .val (.int p3), .val (.int v17)] [(.ref wO), u])) X103 hx rfl hu rfl (pc0 := 29) (pc' := 32) (same := true) rfl (hb hby d16_29) rfl (decide_eq_true (by rw [hv]; simp [own_pk, own_stv, hv5, hv17, hc9, hc22])) (by decide) (by decide) k) ?_
      refine own_go (B := T103.setTop (mkF m 33 #[.val u, .val (.int p1), .val (.int p2), .val (.int p3), .val (.int v17)] [(.int (1 : Int32))])) (fun _ k => XS.iconst X103.here hx rfl (hb hby d16_32) k) ?_
      refine own_go (B := T103.setTop (mkF m 37 #[.val u, .val (.int p1), .val (.int p2), .val (.int p3), .val (.int v17)] [(.int (1 : Int32))])) (fun _ k => XS.goto X103.here hx rfl (pc0 := 33) (pc' := 37) rfl (hb hby d16_33) (by decide) (by decide) k) ?_
      obtain ⟨fs, hr, hrun, hended, hW, hsame⟩ := X103.leave (v := some (.int (nar .boolean (1 : Int32)))) (fun h => by rw [Bd.returns] at h; cases h)
      refine ⟨_, _, retN X103 hx (t := .boolean) Bd.returns (by simp) (hb hby d16_37) hr, hrun, hended, _, _, rfl, ?_, ⟨_, rfl⟩, hW, hsame.mono (by decide) (by decide)⟩
      show Q_rm16 Z wO wC wI cB _ p1 p2 p3 h0 n0 _ T103.heap _
      rw [e103]
      exact ⟨rfl, N102, rfl⟩
    · refine own_go (B := T102.setTop (mkF m 38 #[.val u, .val (.int p1), .val (.int p2), .val (.int p3), .val (.int v17)] [])) (fun _ k => XS.icmpYes X102.here hx rfl (pc0 := 22) (pc' := 38) rfl (hb hby d16_22) rfl (feq hc22).2 (by decide) (by decide) k) ?_
      refine own_go (B := T102.setTop (mkF m 40 #[.val u, .val (.int p1), .val (.int p2), .val (.int p3), .val (.int v17)] [(.int v17)])) (fun _ k => XS.iload X102.here hx rfl (hb hby d16_38) rfl k) ?_
      refine own_go (B := T102.setTop (mkF m 41 #[.val u, .val (.int p1), .val (.int p2), .val (.int p3), .val (.int v17)] [(.int (2 : Int32)), (.int v17)])) (fun _ k => XS.iconst X102.here hx rfl (hb hby d16_40) k) ?_
      by_cases hc41 : v17 = (2 : Int32)
      · refine own_go (B := T102.setTop (mkF m 44 #[.val u, .val (.int p1), .val (.int p2), .val (.int p3), .val (.int v17)] [])) (fun _ k => XS.icmpNo X102.here hx rfl (hb hby d16_41) rfl (teq hc41).2 k) ?_
        refine own_go (B := T102.setTop (mkF m 45 #[.val u, .val (.int p1), .val (.int p2), .val (.int p3), .val (.int v17)] [u])) (fun _ k => XS.aloadN X102.here hx rfl (hb hby d16_44) rfl hu k) ?_
        obtain ⟨T104, X104, e104, st104⟩ := getS2 X102 hx hZ hown (host := "") (Or.inl (hw _ (List.mem_of_getElem? (i := 115) rfl))) Via.refl e102 (S_Status_CLOSED.ext O0.2) (g := (mkF m 45 #[.val u, .val (.int p1), .val (.int p2), .val (.int p3), .val (.int v17)] [u])) rfl (hb hby d16_45)
        refine own_go (B := T104.setTop (mkF m 48 #[.val u, .val (.int p1), .val (.int p2), .val (.int p3), .val (.int v17)] [(.ref wC), u])) (st104) ?_
        refine own_go (B := T104.setTop (mkF m 51 #[.val u, .val (.int p1), .val (.int p2), .val (.int p3), .val (.int v17)] [])) (fun _ k => Jvm.RoadKit.acmp (g := (mkF m 48 #[.val u, .val (.int p1), .val (.int p2), .val (.int p3), .val (.int v17)] [(.ref wC), u])) X104 hx rfl hu rfl (pc0 := 48) (pc' := 51) (same := true) rfl (hb hby d16_48) rfl (decide_eq_true (by rw [hv]; simp [own_pk, own_stv, hv5, hv17, hc9, hc22, hc41])) (by decide) (by decide) k) ?_
        refine own_go (B := T104.setTop (mkF m 52 #[.val u, .val (.int p1), .val (.int p2), .val (.int p3), .val (.int v17)] [(.int (1 : Int32))])) (fun _ k => XS.iconst X104.here hx rfl (hb hby d16_51) k) ?_
        refine own_go (B := T104.setTop (mkF m 56 #[.val u, .val (.int p1), .val (.int p2), .val (.int p3), .val (.int v17)] [(.int (1 : Int32))])) (fun _ k => XS.goto X104.here hx rfl (pc0 := 52) (pc' := 56) rfl (hb hby d16_52) (by decide) (by decide) k) ?_
        obtain ⟨fs, hr, hrun, hended, hW, hsame⟩ := X104.leave (v := some (.int (nar .boolean (1 : Int32)))) (fun h => by rw [Bd.returns] at h; cases h)
        refine ⟨_, _, retN X104 hx (t := .boolean) Bd.returns (by simp) (hb hby d16_56) hr, hrun, hended, _, _, rfl, ?_, ⟨_, rfl⟩, hW, hsame.mono (by decide) (by decide)⟩
        show Q_rm16 Z wO wC wI cB _ p1 p2 p3 h0 n0 _ T104.heap _
        rw [e104]
        exact ⟨rfl, N102, rfl⟩
      · refine own_go (B := T102.setTop (mkF m 57 #[.val u, .val (.int p1), .val (.int p2), .val (.int p3), .val (.int v17)] [])) (fun _ k => XS.icmpYes X102.here hx rfl (pc0 := 41) (pc' := 57) rfl (hb hby d16_41) rfl (feq hc41).2 (by decide) (by decide) k) ?_
        refine own_go (B := T102.setTop (mkF m 58 #[.val u, .val (.int p1), .val (.int p2), .val (.int p3), .val (.int v17)] [u])) (fun _ k => XS.aloadN X102.here hx rfl (hb hby d16_57) rfl hu k) ?_
        refine own_go (B := T102.setTop (mkF m 61 #[.val u, .val (.int p1), .val (.int p2), .val (.int p3), .val (.int v17)] [])) (fun _ k => Jvm.Free.XT.nonnullNo X102.here hx rfl (hb hby d16_58) rfl (by rw [hv]; simp [own_pk, own_stv, hv5, hv17, hc9, hc22, hc41]) k) ?_
        refine own_go (B := T102.setTop (mkF m 62 #[.val u, .val (.int p1), .val (.int p2), .val (.int p3), .val (.int v17)] [(.int (1 : Int32))])) (fun _ k => XS.iconst X102.here hx rfl (hb hby d16_61) k) ?_
        refine own_go (B := T102.setTop (mkF m 66 #[.val u, .val (.int p1), .val (.int p2), .val (.int p3), .val (.int v17)] [(.int (1 : Int32))])) (fun _ k => XS.goto X102.here hx rfl (pc0 := 62) (pc' := 66) rfl (hb hby d16_62) (by decide) (by decide) k) ?_
        obtain ⟨fs, hr, hrun, hended, hW, hsame⟩ := X102.leave (v := some (.int (nar .boolean (1 : Int32)))) (fun h => by rw [Bd.returns] at h; cases h)
        refine ⟨_, _, retN X102 hx (t := .boolean) Bd.returns (by simp) (hb hby d16_66) hr, hrun, hended, _, _, rfl, ?_, ⟨_, rfl⟩, hW, hsame.mono (by decide) (by decide)⟩
        show Q_rm16 Z wO wC wI cB _ p1 p2 p3 h0 n0 _ T102.heap _
        rw [e102]
        exact ⟨rfl, N102, rfl⟩
  · refine own_go (B := T101.setTop (mkF m 19 #[.val u, .val (.int p1), .val (.int p2), .val (.int p3), .val (.int v5)] [])) (fun _ k => XS.ifYes X101.here hx rfl (pc0 := 9) (pc' := 19) rfl (hb hby d16_9) rfl ((if0 _ _).trans (feq hc9).2) (by decide) (by decide) k) ?_
    refine own_go (B := T101.setTop (mkF m 21 #[.val u, .val (.int p1), .val (.int p2), .val (.int p3), .val (.int v5)] [(.int v5)])) (fun _ k => XS.iload X101.here hx rfl (hb hby d16_19) rfl k) ?_
    refine own_go (B := T101.setTop (mkF m 22 #[.val u, .val (.int p1), .val (.int p2), .val (.int p3), .val (.int v5)] [(.int (1 : Int32)), (.int v5)])) (fun _ k => XS.iconst X101.here hx rfl (hb hby d16_21) k) ?_
    by_cases hc22 : v5 = (1 : Int32)
    · refine own_go (B := T101.setTop (mkF m 25 #[.val u, .val (.int p1), .val (.int p2), .val (.int p3), .val (.int v5)] [])) (fun _ k => XS.icmpNo X101.here hx rfl (hb hby d16_22) rfl (teq hc22).2 k) ?_
      refine own_go (B := T101.setTop (mkF m 26 #[.val u, .val (.int p1), .val (.int p2), .val (.int p3), .val (.int v5)] [u])) (fun _ k => XS.aloadN X101.here hx rfl (hb hby d16_25) rfl hu k) ?_
      obtain ⟨T105, X105, e105, st105⟩ := getS2 X101 hx hZ hown (host := "") (Or.inl (hw _ (List.mem_of_getElem? (i := 110) rfl))) Via.refl e101 (S_Status_OPEN.ext O0.2) (g := (mkF m 26 #[.val u, .val (.int p1), .val (.int p2), .val (.int p3), .val (.int v5)] [u])) rfl (hb hby d16_26)
      refine own_go (B := T105.setTop (mkF m 29 #[.val u, .val (.int p1), .val (.int p2), .val (.int p3), .val (.int v5)] [(.ref wO), u])) (st105) ?_
      refine own_go (B := T105.setTop (mkF m 32 #[.val u, .val (.int p1), .val (.int p2), .val (.int p3), .val (.int v5)] [])) (fun _ k => Jvm.RoadKit.acmp (g := (mkF m 29 #[.val u, .val (.int p1), .val (.int p2), .val (.int p3), .val (.int v5)] [(.ref wO), u])) X105 hx rfl hu rfl (pc0 := 29) (pc' := 32) (same := true) rfl (hb hby d16_29) rfl (decide_eq_true (by rw [hv]; simp [own_pk, own_stv, hv5, hc9, hc22])) (by decide) (by decide) k) ?_
      refine own_go (B := T105.setTop (mkF m 33 #[.val u, .val (.int p1), .val (.int p2), .val (.int p3), .val (.int v5)] [(.int (1 : Int32))])) (fun _ k => XS.iconst X105.here hx rfl (hb hby d16_32) k) ?_
      refine own_go (B := T105.setTop (mkF m 37 #[.val u, .val (.int p1), .val (.int p2), .val (.int p3), .val (.int v5)] [(.int (1 : Int32))])) (fun _ k => XS.goto X105.here hx rfl (pc0 := 33) (pc' := 37) rfl (hb hby d16_33) (by decide) (by decide) k) ?_
      obtain ⟨fs, hr, hrun, hended, hW, hsame⟩ := X105.leave (v := some (.int (nar .boolean (1 : Int32)))) (fun h => by rw [Bd.returns] at h; cases h)
      refine ⟨_, _, retN X105 hx (t := .boolean) Bd.returns (by simp) (hb hby d16_37) hr, hrun, hended, _, _, rfl, ?_, ⟨_, rfl⟩, hW, hsame.mono (by decide) (by decide)⟩
      show Q_rm16 Z wO wC wI cB _ p1 p2 p3 h0 n0 _ T105.heap _
      rw [e105]
      exact ⟨rfl, N101, rfl⟩
    · refine own_go (B := T101.setTop (mkF m 38 #[.val u, .val (.int p1), .val (.int p2), .val (.int p3), .val (.int v5)] [])) (fun _ k => XS.icmpYes X101.here hx rfl (pc0 := 22) (pc' := 38) rfl (hb hby d16_22) rfl (feq hc22).2 (by decide) (by decide) k) ?_
      refine own_go (B := T101.setTop (mkF m 40 #[.val u, .val (.int p1), .val (.int p2), .val (.int p3), .val (.int v5)] [(.int v5)])) (fun _ k => XS.iload X101.here hx rfl (hb hby d16_38) rfl k) ?_
      refine own_go (B := T101.setTop (mkF m 41 #[.val u, .val (.int p1), .val (.int p2), .val (.int p3), .val (.int v5)] [(.int (2 : Int32)), (.int v5)])) (fun _ k => XS.iconst X101.here hx rfl (hb hby d16_40) k) ?_
      by_cases hc41 : v5 = (2 : Int32)
      · refine own_go (B := T101.setTop (mkF m 44 #[.val u, .val (.int p1), .val (.int p2), .val (.int p3), .val (.int v5)] [])) (fun _ k => XS.icmpNo X101.here hx rfl (hb hby d16_41) rfl (teq hc41).2 k) ?_
        refine own_go (B := T101.setTop (mkF m 45 #[.val u, .val (.int p1), .val (.int p2), .val (.int p3), .val (.int v5)] [u])) (fun _ k => XS.aloadN X101.here hx rfl (hb hby d16_44) rfl hu k) ?_
        obtain ⟨T106, X106, e106, st106⟩ := getS2 X101 hx hZ hown (host := "") (Or.inl (hw _ (List.mem_of_getElem? (i := 115) rfl))) Via.refl e101 (S_Status_CLOSED.ext O0.2) (g := (mkF m 45 #[.val u, .val (.int p1), .val (.int p2), .val (.int p3), .val (.int v5)] [u])) rfl (hb hby d16_45)
        refine own_go (B := T106.setTop (mkF m 48 #[.val u, .val (.int p1), .val (.int p2), .val (.int p3), .val (.int v5)] [(.ref wC), u])) (st106) ?_
        refine own_go (B := T106.setTop (mkF m 51 #[.val u, .val (.int p1), .val (.int p2), .val (.int p3), .val (.int v5)] [])) (fun _ k => Jvm.RoadKit.acmp (g := (mkF m 48 #[.val u, .val (.int p1), .val (.int p2), .val (.int p3), .val (.int v5)] [(.ref wC), u])) X106 hx rfl hu rfl (pc0 := 48) (pc' := 51) (same := true) rfl (hb hby d16_48) rfl (decide_eq_true (by rw [hv]; simp [own_pk, own_stv, hv5, hc9, hc22, hc41])) (by decide) (by decide) k) ?_
        refine own_go (B := T106.setTop (mkF m 52 #[.val u, .val (.int p1), .val (.int p2), .val (.int p3), .val (.int v5)] [(.int (1 : Int32))])) (fun _ k => XS.iconst X106.here hx rfl (hb hby d16_51) k) ?_
        refine own_go (B := T106.setTop (mkF m 56 #[.val u, .val (.int p1), .val (.int p2), .val (.int p3), .val (.int v5)] [(.int (1 : Int32))])) (fun _ k => XS.goto X106.here hx rfl (pc0 := 52) (pc' := 56) rfl (hb hby d16_52) (by decide) (by decide) k) ?_
        obtain ⟨fs, hr, hrun, hended, hW, hsame⟩ := X106.leave (v := some (.int (nar .boolean (1 : Int32)))) (fun h => by rw [Bd.returns] at h; cases h)
        refine ⟨_, _, retN X106 hx (t := .boolean) Bd.returns (by simp) (hb hby d16_56) hr, hrun, hended, _, _, rfl, ?_, ⟨_, rfl⟩, hW, hsame.mono (by decide) (by decide)⟩
        show Q_rm16 Z wO wC wI cB _ p1 p2 p3 h0 n0 _ T106.heap _
        rw [e106]
        exact ⟨rfl, N101, rfl⟩
      · refine own_go (B := T101.setTop (mkF m 57 #[.val u, .val (.int p1), .val (.int p2), .val (.int p3), .val (.int v5)] [])) (fun _ k => XS.icmpYes X101.here hx rfl (pc0 := 41) (pc' := 57) rfl (hb hby d16_41) rfl (feq hc41).2 (by decide) (by decide) k) ?_
        refine own_go (B := T101.setTop (mkF m 58 #[.val u, .val (.int p1), .val (.int p2), .val (.int p3), .val (.int v5)] [u])) (fun _ k => XS.aloadN X101.here hx rfl (hb hby d16_57) rfl hu k) ?_
        refine own_go (B := T101.setTop (mkF m 61 #[.val u, .val (.int p1), .val (.int p2), .val (.int p3), .val (.int v5)] [])) (fun _ k => Jvm.Free.XT.nonnullNo X101.here hx rfl (hb hby d16_58) rfl (absurd (own_code_rng p1 p2) (by simp [hv5, hc9, hc22, hc41])) k) ?_
        refine own_go (B := T101.setTop (mkF m 62 #[.val u, .val (.int p1), .val (.int p2), .val (.int p3), .val (.int v5)] [(.int (1 : Int32))])) (fun _ k => XS.iconst X101.here hx rfl (hb hby d16_61) k) ?_
        refine own_go (B := T101.setTop (mkF m 66 #[.val u, .val (.int p1), .val (.int p2), .val (.int p3), .val (.int v5)] [(.int (1 : Int32))])) (fun _ k => XS.goto X101.here hx rfl (pc0 := 62) (pc' := 66) rfl (hb hby d16_62) (by decide) (by decide) k) ?_
        obtain ⟨fs, hr, hrun, hended, hW, hsame⟩ := X101.leave (v := some (.int (nar .boolean (1 : Int32)))) (fun h => by rw [Bd.returns] at h; cases h)
        refine ⟨_, _, retN X101 hx (t := .boolean) Bd.returns (by simp) (hb hby d16_66) hr, hrun, hended, _, _, rfl, ?_, ⟨_, rfl⟩, hW, hsame.mono (by decide) (by decide)⟩
        show Q_rm16 Z wO wC wI cB _ p1 p2 p3 h0 n0 _ T101.heap _
        rw [e101]
        exact ⟨rfl, N101, rfl⟩
theorem pd_7 : parseMethodDescriptor "(III)Ljava/lang/Integer;" = some ⟨[.int, .int, .int], some (.object "java/lang/Integer")⟩ := by decide +kernel
theorem pd_8 : parseMethodDescriptor "(II)Lcom/example/roomwire/roomwire/core/Status;" = some ⟨[.int, .int], some (.object "com/example/roomwire/roomwire/core/Status")⟩ := by decide +kernel
theorem pd_9 : parseMethodDescriptor "(Lcom/example/roomwire/roomwire/core/NightState;)Lcom/example/roomwire/roomwire/core/NightState;" = some ⟨[(.object "com/example/roomwire/roomwire/core/NightState")], some (.object "com/example/roomwire/roomwire/core/NightState")⟩ := by decide +kernel
theorem pd_10 : parseMethodDescriptor "()Ljava/lang/Integer;" = some ⟨[], some (.object "java/lang/Integer")⟩ := by decide +kernel
theorem pd_11 : parseMethodDescriptor "(Ljava/lang/Integer;IIIII)Z" = some ⟨[(.object "java/lang/Integer"), .int, .int, .int, .int, .int], some .boolean⟩ := by decide +kernel
theorem pd_12 : parseMethodDescriptor "()Lcom/example/roomwire/roomwire/core/Status;" = some ⟨[], some (.object "com/example/roomwire/roomwire/core/Status")⟩ := by decide +kernel
theorem pd_13 : parseMethodDescriptor "(Lcom/example/roomwire/roomwire/core/Status;III)Z" = some ⟨[(.object "com/example/roomwire/roomwire/core/Status"), .int, .int, .int], some .boolean⟩ := by decide +kernel
theorem ef_rm0 (m : MethodId) (q0 : Int64) (q1 : Int64) (q2 : Int64) (p3 : Int32) : entryFrame m #[(.long q0), (.long q1), (.long q2), (.int p3)] maxLocals = mkF m 0 #[.val (.long q0), .second, .val (.long q1), .second, .val (.long q2), .second, .val (.int p3), .unset, .unset, .unset, .unset, .unset, .unset, .unset, .unset, .unset] [] := by first | (simp [entryFrame, mkF, argsToLocals, Value.category, maxLocals]; done) | rfl
def Q_rm0 (Z : State) (wO : Addr) (wC : Addr) (wI : Addr) (cB : Cell) (q0 : Int64) (q1 : Int64) (q2 : Int64) (p3 : Int32) (h0 : Heap) (n0 : Nat) (v : Option Value) (h : Heap) (L : List Loc) : Prop := v = some (.int (1 : Int32)) ∧ Fr n0 L
set_option maxRecDepth 65536 in
set_option maxHeartbeats 40000000 in
theorem rm0 (l : Launch) (Z : State) (a0 : Array Value) (hw : ∀ d ∈ tables_1, d.before a0 Z = true) (ws : List Jvm.Cond) (wO : Addr) (wC : Addr) (wI : Addr) (cB : Cell) (G : own_G Z wO wC wI cB) (q0 : Int64) (q1 : Int64) (q2 : Int64) (p3 : Int32) (h0 : Heap) (n0 : Nat) (Z0 : n0 ≤ h0.size) (O0 : Old Z n0 h0) :
    MetFree l x (head1 (Jvm.Cond.code x code maxLocals ret :: ws) room_1) (fun a U => a = #[(.long q0), (.long q1), (.long q2), (.int p3)] ∧ Z.Warmed39 U.vm ∧ U.heap = h0) (fun _ _ _ _ _ => True) (fun _ U o U' => ∃ v L, o = .returned v ∧ Q_rm0 Z wO wC wI cB q0 q1 q2 p3 h0 n0 v U'.heap L ∧ FrameEnd U o U' L room_1.cells room_1.slots) := by
  refine MetFree.of_bodySF (plainFor_of_name pn_1) hisR ?_
  intro p e s m args below meth c s₁ Bd hml0 hP hK
  obtain ⟨rfl, hZ, hh⟩ := hP
  have hx := Bd.exec
  have hby := Bd.bytes
  have hml : c.maxLocals = 16 := hml0
  have hown : s.vm.findClass "com/example/roomwire/roomwire/core/NightStateOverlayPinLaw" = some m.cls := findClass_of_methodNamed Bd.named
  have hnm := (name_of_methodNamed Bd.named Bd.method).1
  have X0 : Stand p l e room_1 s m #[(.long q0), (.long q1), (.long q2), (.int p3)] below meth c s₁ [] 0 0 := Stand.of_body Bd
  have e0 : s₁.heap = h0 := by rw [← hh, Bd.state]; rfl
  have N0 := Fr.nil n0
  have K0 := Keep.refl h0 ([] : List Addr)
  have G_ := G
  obtain ⟨S_Status_OPEN, E_wO, S_Status_CLOSED, E_wC, S_Integer_IntegerCache_cache, E_wI, S_Integer_IntegerCache_high, BX, G_end⟩ := G_
  change own_Go p e below _ _
  refine own_go (B := s₁.setTop (mkF m 0 #[.val (.long q0), .second, .val (.long q1), .second, .val (.long q2), .second, .val (.int p3), .unset, .unset, .unset, .unset, .unset, .unset, .unset, .unset, .unset] [])) (fun _ k => castTop (ef_rm0 m q0 q1 q2 p3) k) ?_
  refine own_go (B := s₁.setTop (mkF m 1 #[.val (.long q0), .second, .val (.long q1), .second, .val (.long q2), .second, .val (.int p3), .unset, .unset, .unset, .unset, .unset, .unset, .unset, .unset, .unset] [(.long q0)])) (fun _ k => XS.lloadN X0.here hx rfl (hb hby at_0) rfl k) ?_
  refine own_go (B := s₁.setTop (mkF m 3 #[.val (.long q0), .second, .val (.long q1), .second, .val (.long q2), .second, .val (.int p3), .unset, .unset, .unset, .unset, .unset, .unset, .unset, .unset, .unset] [(.int (32 : Int32)), (.long q0)])) (fun _ k => XS.bipush X0.here hx rfl (hb hby at_1) k) ?_
  refine own_go (B := s₁.setTop (mkF m 4 #[.val (.long q0), .second, .val (.long q1), .second, .val (.long q2), .second, .val (.int p3), .unset, .unset, .unset, .unset, .unset, .unset, .unset, .unset, .unset] [(.long ((q0.toUInt64 >>> ((32 : Int32) &&& 0x3f).toInt64.toUInt64).toInt64))])) (fun _ k => XS.lushr X0.here hx rfl (hb hby at_3) rfl k) ?_
  refine own_go (B := s₁.setTop (mkF m 5 #[.val (.long q0), .second, .val (.long q1), .second, .val (.long q2), .second, .val (.int p3), .unset, .unset, .unset, .unset, .unset, .unset, .unset, .unset, .unset] [(.int (((q0.toUInt64 >>> ((32 : Int32) &&& 0x3f).toInt64.toUInt64).toInt64).toInt32))])) (fun _ k => XS.l2i X0.here hx rfl (hb hby at_4) rfl k) ?_
  generalize hv5 : (((q0.toUInt64 >>> ((32 : Int32) &&& 0x3f).toInt64.toUInt64).toInt64).toInt32) = v5
  refine own_go (B := s₁.setTop (mkF m 7 #[.val (.long q0), .second, .val (.long q1), .second, .val (.long q2), .second, .val (.int p3), .val (.int v5), .unset, .unset, .unset, .unset, .unset, .unset, .unset, .unset] [])) (fun _ k => XS.istore X0.here hx rfl (hb hby at_5) rfl (l' := #[.val (.long q0), .second, .val (.long q1), .second, .val (.long q2), .second, .val (.int p3), .val (.int v5), .unset, .unset, .unset, .unset, .unset, .unset, .unset, .unset]) rfl k) ?_
  refine own_go (B := s₁.setTop (mkF m 8 #[.val (.long q0), .second, .val (.long q1), .second, .val (.long q2), .second, .val (.int p3), .val (.int v5), .unset, .unset, .unset, .unset, .unset, .unset, .unset, .unset] [(.long q0)])) (fun _ k => XS.lloadN X0.here hx rfl (hb hby at_7) rfl k) ?_
  refine own_go (B := s₁.setTop (mkF m 9 #[.val (.long q0), .second, .val (.long q1), .second, .val (.long q2), .second, .val (.int p3), .val (.int v5), .unset, .unset, .unset, .unset, .unset, .unset, .unset, .unset] [(.int (q0.toInt32))])) (fun _ k => XS.l2i X0.here hx rfl (hb hby at_8) rfl k) ?_
  generalize hv9 : (q0.toInt32) = v9
  refine own_go (B := s₁.setTop (mkF m 11 #[.val (.long q0), .second, .val (.long q1), .second, .val (.long q2), .second, .val (.int p3), .val (.int v5), .val (.int v9), .unset, .unset, .unset, .unset, .unset, .unset, .unset] [])) (fun _ k => XS.istore X0.here hx rfl (hb hby at_9) rfl (l' := #[.val (.long q0), .second, .val (.long q1), .second, .val (.long q2), .second, .val (.int p3), .val (.int v5), .val (.int v9), .unset, .unset, .unset, .unset, .unset, .unset, .unset]) rfl k) ?_
  refine own_go (B := s₁.setTop (mkF m 12 #[.val (.long q0), .second, .val (.long q1), .second, .val (.long q2), .second, .val (.int p3), .val (.int v5), .val (.int v9), .unset, .unset, .unset, .unset, .unset, .unset, .unset] [(.long q1)])) (fun _ k => XS.lloadN X0.here hx rfl (hb hby at_11) rfl k) ?_
  refine own_go (B := s₁.setTop (mkF m 14 #[.val (.long q0), .second, .val (.long q1), .second, .val (.long q2), .second, .val (.int p3), .val (.int v5), .val (.int v9), .unset, .unset, .unset, .unset, .unset, .unset, .unset] [(.int (32 : Int32)), (.long q1)])) (fun _ k => XS.bipush X0.here hx rfl (hb hby at_12) k) ?_
  refine own_go (B := s₁.setTop (mkF m 15 #[.val (.long q0), .second, .val (.long q1), .second, .val (.long q2), .second, .val (.int p3), .val (.int v5), .val (.int v9), .unset, .unset, .unset, .unset, .unset, .unset, .unset] [(.long ((q1.toUInt64 >>> ((32 : Int32) &&& 0x3f).toInt64.toUInt64).toInt64))])) (fun _ k => XS.lushr X0.here hx rfl (hb hby at_14) rfl k) ?_
  refine own_go (B := s₁.setTop (mkF m 16 #[.val (.long q0), .second, .val (.long q1), .second, .val (.long q2), .second, .val (.int p3), .val (.int v5), .val (.int v9), .unset, .unset, .unset, .unset, .unset, .unset, .unset] [(.int (((q1.toUInt64 >>> ((32 : Int32) &&& 0x3f).toInt64.toUInt64).toInt64).toInt32))])) (fun _ k => XS.l2i X0.here hx rfl (hb hby at_15) rfl k) ?_
  generalize hv16 : (((q1.toUInt64 >>> ((32 : Int32) &&& 0x3f).toInt64.toUInt64).toInt64).toInt32) = v16
  refine own_go (B := s₁.setTop (mkF m 18 #[.val (.long q0), .second, .val (.long q1), .second, .val (.long q2), .second, .val (.int p3), .val (.int v5), .val (.int v9), .val (.int v16), .unset, .unset, .unset, .unset, .unset, .unset] [])) (fun _ k => XS.istore X0.here hx rfl (hb hby at_16) rfl (l' := #[.val (.long q0), .second, .val (.long q1), .second, .val (.long q2), .second, .val (.int p3), .val (.int v5), .val (.int v9), .val (.int v16), .unset, .unset, .unset, .unset, .unset, .unset]) rfl k) ?_
  refine own_go (B := s₁.setTop (mkF m 19 #[.val (.long q0), .second, .val (.long q1), .second, .val (.long q2), .second, .val (.int p3), .val (.int v5), .val (.int v9), .val (.int v16), .unset, .unset, .unset, .unset, .unset, .unset] [(.long q1)])) (fun _ k => XS.lloadN X0.here hx rfl (hb hby at_18) rfl k) ?_
  refine own_go (B := s₁.setTop (mkF m 20 #[.val (.long q0), .second, .val (.long q1), .second, .val (.long q2), .second, .val (.int p3), .val (.int v5), .val (.int v9), .val (.int v16), .unset, .unset, .unset, .unset, .unset, .unset] [(.int (q1.toInt32))])) (fun _ k => XS.l2i X0.here hx rfl (hb hby at_19) rfl k) ?_
  generalize hv20 : (q1.toInt32) = v20
  refine own_go (B := s₁.setTop (mkF m 22 #[.val (.long q0), .second, .val (.long q1), .second, .val (.long q2), .second, .val (.int p3), .val (.int v5), .val (.int v9), .val (.int v16), .val (.int v20), .unset, .unset, .unset, .unset, .unset] [])) (fun _ k => XS.istore X0.here hx rfl (hb hby at_20) rfl (l' := #[.val (.long q0), .second, .val (.long q1), .second, .val (.long q2), .second, .val (.int p3), .val (.int v5), .val (.int v9), .val (.int v16), .val (.int v20), .unset, .unset, .unset, .unset, .unset]) rfl k) ?_
  refine own_go (B := s₁.setTop (mkF m 24 #[.val (.long q0), .second, .val (.long q1), .second, .val (.long q2), .second, .val (.int p3), .val (.int v5), .val (.int v9), .val (.int v16), .val (.int v20), .unset, .unset, .unset, .unset, .unset] [(.long q2)])) (fun _ k => XS.lload X0.here hx rfl (hb hby at_22) rfl k) ?_
  refine own_go (B := s₁.setTop (mkF m 26 #[.val (.long q0), .second, .val (.long q1), .second, .val (.long q2), .second, .val (.int p3), .val (.int v5), .val (.int v9), .val (.int v16), .val (.int v20), .unset, .unset, .unset, .unset, .unset] [(.int (32 : Int32)), (.long q2)])) (fun _ k => XS.bipush X0.here hx rfl (hb hby at_24) k) ?_
  refine own_go (B := s₁.setTop (mkF m 27 #[.val (.long q0), .second, .val (.long q1), .second, .val (.long q2), .second, .val (.int p3), .val (.int v5), .val (.int v9), .val (.int v16), .val (.int v20), .unset, .unset, .unset, .unset, .unset] [(.long ((q2.toUInt64 >>> ((32 : Int32) &&& 0x3f).toInt64.toUInt64).toInt64))])) (fun _ k => XS.lushr X0.here hx rfl (hb hby at_26) rfl k) ?_
  refine own_go (B := s₁.setTop (mkF m 28 #[.val (.long q0), .second, .val (.long q1), .second, .val (.long q2), .second, .val (.int p3), .val (.int v5), .val (.int v9), .val (.int v16), .val (.int v20), .unset, .unset, .unset, .unset, .unset] [(.int (((q2.toUInt64 >>> ((32 : Int32) &&& 0x3f).toInt64.toUInt64).toInt64).toInt32))])) (fun _ k => XS.l2i X0.here hx rfl (hb hby at_27) rfl k) ?_
  generalize hv28 : (((q2.toUInt64 >>> ((32 : Int32) &&& 0x3f).toInt64.toUInt64).toInt64).toInt32) = v28
  refine own_go (B := s₁.setTop (mkF m 30 #[.val (.long q0), .second, .val (.long q1), .second, .val (.long q2), .second, .val (.int p3), .val (.int v5), .val (.int v9), .val (.int v16), .val (.int v20), .val (.int v28), .unset, .unset, .unset, .unset] [])) (fun _ k => XS.istore X0.here hx rfl (hb hby at_28) rfl (l' := #[.val (.long q0), .second, .val (.long q1), .second, .val (.long q2), .second, .val (.int p3), .val (.int v5), .val (.int v9), .val (.int v16), .val (.int v20), .val (.int v28), .unset, .unset, .unset, .unset]) rfl k) ?_
  refine own_go (B := s₁.setTop (mkF m 32 #[.val (.long q0), .second, .val (.long q1), .second, .val (.long q2), .second, .val (.int p3), .val (.int v5), .val (.int v9), .val (.int v16), .val (.int v20), .val (.int v28), .unset, .unset, .unset, .unset] [(.long q2)])) (fun _ k => XS.lload X0.here hx rfl (hb hby at_30) rfl k) ?_
  refine own_go (B := s₁.setTop (mkF m 33 #[.val (.long q0), .second, .val (.long q1), .second, .val (.long q2), .second, .val (.int p3), .val (.int v5), .val (.int v9), .val (.int v16), .val (.int v20), .val (.int v28), .unset, .unset, .unset, .unset] [(.int (q2.toInt32))])) (fun _ k => XS.l2i X0.here hx rfl (hb hby at_32) rfl k) ?_
  generalize hv33 : (q2.toInt32) = v33
  refine own_go (B := s₁.setTop (mkF m 35 #[.val (.long q0), .second, .val (.long q1), .second, .val (.long q2), .second, .val (.int p3), .val (.int v5), .val (.int v9), .val (.int v16), .val (.int v20), .val (.int v28), .val (.int v33), .unset, .unset, .unset] [])) (fun _ k => XS.istore X0.here hx rfl (hb hby at_33) rfl (l' := #[.val (.long q0), .second, .val (.long q1), .second, .val (.long q2), .second, .val (.int p3), .val (.int v5), .val (.int v9), .val (.int v16), .val (.int v20), .val (.int v28), .val (.int v33), .unset, .unset, .unset]) rfl k) ?_
  obtain ⟨T101, h101, X101, e101, E101, A101, D101, -, st101⟩ := newO X0 hx hZ hown (hw _ (List.mem_of_getElem? (i := 0) rfl)) (hw _ (List.mem_of_getElem? (i := 1) rfl)) (hw _ (List.mem_of_getElem? (i := 2) rfl)) e0 (g := (mkF m 35 #[.val (.long q0), .second, .val (.long q1), .second, .val (.long q2), .second, .val (.int p3), .val (.int v5), .val (.int v9), .val (.int v16), .val (.int v20), .val (.int v28), .val (.int v33), .unset, .unset, .unset] [])) rfl (hb hby at_35) (by decide) (by decide)
  obtain ⟨b101, g101⟩ : ∃ z, z = h0.size := ⟨_, rfl⟩
  rw [← g101] at A101 D101 st101
  have g_b101 : n0 ≤ b101 := Nat.le_trans (Nat.le_trans Z0 K0.1) (Nat.le_of_eq g101.symm)
  have sz_b101 : h0.size ≤ b101 := Nat.le_trans K0.1 (Nat.le_of_eq g101.symm)
  have O101 := O0.ext E101
  have K101' : Keep h0 h101 ([] : List Addr) := K0.ext E101
  have F_bookingLimit_b101 : Fld Z h101 b101 "com/example/roomwire/roomwire/core/NightState" "bookingLimit" "Ljava/lang/Integer;" .null := D101 (Or.inr (hw _ (List.mem_of_getElem? (i := 47) rfl))) (ty := (.object "java/lang/Integer")) (by decide)
  have F_master_b101 : Fld Z h101 b101 "com/example/roomwire/roomwire/core/NightState" "master" "Lcom/example/roomwire/roomwire/core/Status;" .null := D101 (Or.inr (hw _ (List.mem_of_getElem? (i := 49) rfl))) (ty := (.object "com/example/roomwire/roomwire/core/Status")) (by decide)
  have F_arrival_b101 : Fld Z h101 b101 "com/example/roomwire/roomwire/core/NightState" "arrival" "Lcom/example/roomwire/roomwire/core/Status;" .null := D101 (Or.inr (hw _ (List.mem_of_getElem? (i := 51) rfl))) (ty := (.object "com/example/roomwire/roomwire/core/Status")) (by decide)
  have F_departure_b101 : Fld Z h101 b101 "com/example/roomwire/roomwire/core/NightState" "departure" "Lcom/example/roomwire/roomwire/core/Status;" .null := D101 (Or.inr (hw _ (List.mem_of_getElem? (i := 53) rfl))) (ty := (.object "com/example/roomwire/roomwire/core/Status")) (by decide)
  have F_minStay_b101 : Fld Z h101 b101 "com/example/roomwire/roomwire/core/NightState" "minStay" "Ljava/lang/Integer;" .null := D101 (Or.inr (hw _ (List.mem_of_getElem? (i := 55) rfl))) (ty := (.object "java/lang/Integer")) (by decide)
  have F_maxStay_b101 : Fld Z h101 b101 "com/example/roomwire/roomwire/core/NightState" "maxStay" "Ljava/lang/Integer;" .null := D101 (Or.inr (hw _ (List.mem_of_getElem? (i := 57) rfl))) (ty := (.object "java/lang/Integer")) (by decide)
  refine own_go (B := T101.setTop (mkF m 38 #[.val (.long q0), .second, .val (.long q1), .second, .val (.long q2), .second, .val (.int p3), .val (.int v5), .val (.int v9), .val (.int v16), .val (.int v20), .val (.int v28), .val (.int v33), .unset, .unset, .unset] [(.ref b101)])) (st101) ?_
  refine own_go (B := T101.setTop (mkF m 39 #[.val (.long q0), .second, .val (.long q1), .second, .val (.long q2), .second, .val (.int p3), .val (.int v5), .val (.int v9), .val (.int v16), .val (.int v20), .val (.int v28), .val (.int v33), .unset, .unset, .unset] [(.ref b101), (.ref b101)])) (fun _ k => XS.dup X101.here hx rfl (hb hby at_38) rfl rfl k) ?_
  refine own_go (B := T101.setTop (mkF m 41 #[.val (.long q0), .second, .val (.long q1), .second, .val (.long q2), .second, .val (.int p3), .val (.int v5), .val (.int v9), .val (.int v16), .val (.int v20), .val (.int v28), .val (.int v33), .unset, .unset, .unset] [(.int v5), (.ref b101), (.ref b101)])) (fun _ k => XS.iload X101.here hx rfl (hb hby at_39) rfl k) ?_
  refine own_go (B := T101.setTop (mkF m 43 #[.val (.long q0), .second, .val (.long q1), .second, .val (.long q2), .second, .val (.int p3), .val (.int v5), .val (.int v9), .val (.int v16), .val (.int v20), .val (.int v28), .val (.int v33), .unset, .unset, .unset] [(.int p3), (.int v5), (.ref b101), (.ref b101)])) (fun _ k => XS.iload X101.here hx rfl (hb hby at_41) rfl k) ?_
  refine own_go (B := T101.setTop (mkF m 44 #[.val (.long q0), .second, .val (.long q1), .second, .val (.long q2), .second, .val (.int p3), .val (.int v5), .val (.int v9), .val (.int v16), .val (.int v20), .val (.int v28), .val (.int v33), .unset, .unset, .unset] [(.int (0 : Int32)), (.int p3), (.int v5), (.ref b101), (.ref b101)])) (fun _ k => XS.iconst X101.here hx rfl (hb hby at_43) k) ?_
  obtain ⟨_, _, ⟨T102, L102, k102, n102⟩, -, X102, ⟨Lc102, hQ102, l102, y102, z102⟩, st102⟩ := Jvm.LawKit.callS X101 hx (y := (⟨"com/example/roomwire/roomwire/core/NightStateOverlayPinLaw", "num", "(III)Ljava/lang/Integer;"⟩ : MethodName)) hown (mvT hZ (hw _ (List.mem_of_getElem? (i := 3) rfl))) (mvT hZ (hw _ (List.mem_of_getElem? (i := 4) rfl))) (mvT hZ (hw _ (List.mem_of_getElem? (i := 5) rfl))) (mvT hZ (hw _ (List.mem_of_getElem? (i := 6) rfl))) (by decide) (backOf (W := 2) (rm1 l Z a0 hw [] wO wC wI cB G v5 p3 (0 : Int32) h101 n0 (Nat.le_trans Z0 K101'.1) O101 ) hZ (hw _ (List.mem_of_getElem? (i := 6) rfl)) (hw _ (List.mem_of_getElem? (i := 5) rfl)) (by decide) (by decide)) (g := (mkF m 44 #[.val (.long q0), .second, .val (.long q1), .second, .val (.long q2), .second, .val (.int p3), .val (.int v5), .val (.int v9), .val (.int v16), .val (.int v20), .val (.int v28), .val (.int v33), .unset, .unset, .unset] [(.int (0 : Int32)), (.int p3), (.int v5), (.ref b101), (.ref b101)])) rfl (by rw [hml]; rfl) (argsL := [(.int v5), (.int p3), (.int (0 : Int32))]) (rest := [(.ref b101), (.ref b101)]) (lenOf pd_7 rfl) rfl (by show 2 * 0 + _ ≤ _; exact Nat.le_of_eq rfl) (hb hby at_44) (fun _ _ => ⟨rfl, e101, (by decide : 1 + 1 ≤ 32), (by decide : 6 + 1 ≤ 128)⟩)
  dsimp only [Pt.U, Pt.locs, Pt.cells, Pt.slots] at X102 l102 y102 z102 st102 hQ102
  rw [l102, y102, z102] at X102
  obtain ⟨u_102, rfl, N102q, K102, hu_102, NI_102⟩ := hQ102
  have N102 := Fr.app N0 N102q
  have O102 := O101.keep K102 all0
  have K102' : Keep h0 T102.heap ([] : List Addr) := K101'.trans K102 all0
  refine own_go (B := T102.setTop (mkF m 47 #[.val (.long q0), .second, .val (.long q1), .second, .val (.long q2), .second, .val (.int p3), .val (.int v5), .val (.int v9), .val (.int v16), .val (.int v20), .val (.int v28), .val (.int v33), .unset, .unset, .unset] [u_102, (.ref b101), (.ref b101)])) (st102) ?_
  refine own_go (B := T102.setTop (mkF m 49 #[.val (.long q0), .second, .val (.long q1), .second, .val (.long q2), .second, .val (.int p3), .val (.int v5), .val (.int v9), .val (.int v16), .val (.int v20), .val (.int v28), .val (.int v33), .unset, .unset, .unset] [(.int p3), u_102, (.ref b101), (.ref b101)])) (fun _ k => XS.iload X102.here hx rfl (hb hby at_47) rfl k) ?_
  refine own_go (B := T102.setTop (mkF m 51 #[.val (.long q0), .second, .val (.long q1), .second, .val (.long q2), .second, .val (.int p3), .val (.int v5), .val (.int v9), .val (.int v16), .val (.int v20), .val (.int v28), .val (.int v33), .unset, .unset, .unset] [(.int (6 : Int32)), (.int p3), u_102, (.ref b101), (.ref b101)])) (fun _ k => XS.bipush X102.here hx rfl (hb hby at_49) k) ?_
  obtain ⟨_, _, ⟨T103, L103, k103, n103⟩, -, X103, ⟨Lc103, hQ103, l103, y103, z103⟩, st103⟩ := Jvm.LawKit.callS X102 hx (y := (⟨"com/example/roomwire/roomwire/core/NightStateOverlayPinLaw", "st", "(II)Lcom/example/roomwire/roomwire/core/Status;"⟩ : MethodName)) hown (mvT hZ (hw _ (List.mem_of_getElem? (i := 14) rfl))) (mvT hZ (hw _ (List.mem_of_getElem? (i := 15) rfl))) (mvT hZ (hw _ (List.mem_of_getElem? (i := 5) rfl))) (mvT hZ (hw _ (List.mem_of_getElem? (i := 16) rfl))) (by decide) (backOf (W := 3) (rm3 l Z a0 hw [] wO wC wI cB G p3 (6 : Int32) T102.heap n0 (Nat.le_trans Z0 K102'.1) O102 ) hZ (hw _ (List.mem_of_getElem? (i := 16) rfl)) (hw _ (List.mem_of_getElem? (i := 5) rfl)) (by decide) (by decide)) (g := (mkF m 51 #[.val (.long q0), .second, .val (.long q1), .second, .val (.long q2), .second, .val (.int p3), .val (.int v5), .val (.int v9), .val (.int v16), .val (.int v20), .val (.int v28), .val (.int v33), .unset, .unset, .unset] [(.int (6 : Int32)), (.int p3), u_102, (.ref b101), (.ref b101)])) rfl (by rw [hml]; rfl) (argsL := [(.int p3), (.int (6 : Int32))]) (rest := [u_102, (.ref b101), (.ref b101)]) (lenOf pd_8 rfl) rfl (by show 2 * 0 + _ ≤ _; exact own_cW (own_cK (own_cK (own_cK own_c0 rfl) rfl) (Jvm.Free.XT.cat1 hu_102))) (hb hby at_51) (fun _ _ => ⟨rfl, rfl, (by decide : 2 + 0 ≤ 32), (by decide : 7 + 0 ≤ 128)⟩)
  dsimp only [Pt.U, Pt.locs, Pt.cells, Pt.slots] at X103 l103 y103 z103 st103 hQ103
  rw [l103, y103, z103] at X103
  obtain ⟨rfl, N103q, K103⟩ := hQ103
  have N103 := Fr.app N102 N103q
  have e103 : T103.heap = T102.heap := K103
  refine own_go (B := T103.setTop (mkF m 54 #[.val (.long q0), .second, .val (.long q1), .second, .val (.long q2), .second, .val (.int p3), .val (.int v5), .val (.int v9), .val (.int v16), .val (.int v20), .val (.int v28), .val (.int v33), .unset, .unset, .unset] [(own_stv (own_code p3 (6 : Int32)) wO wC), u_102, (.ref b101), (.ref b101)])) (st103) ?_
  refine own_go (B := T103.setTop (mkF m 56 #[.val (.long q0), .second, .val (.long q1), .second, .val (.long q2), .second, .val (.int p3), .val (.int v5), .val (.int v9), .val (.int v16), .val (.int v20), .val (.int v28), .val (.int v33), .unset, .unset, .unset] [(.int p3), (own_stv (own_code p3 (6 : Int32)) wO wC), u_102, (.ref b101), (.ref b101)])) (fun _ k => XS.iload X103.here hx rfl (hb hby at_54) rfl k) ?_
  refine own_go (B := T103.setTop (mkF m 58 #[.val (.long q0), .second, .val (.long q1), .second, .val (.long q2), .second, .val (.int p3), .val (.int v5), .val (.int v9), .val (.int v16), .val (.int v20), .val (.int v28), .val (.int v33), .unset, .unset, .unset] [(.int (8 : Int32)), (.int p3), (own_stv (own_code p3 (6 : Int32)) wO wC), u_102, (.ref b101), (.ref b101)])) (fun _ k => XS.bipush X103.here hx rfl (hb hby at_56) k) ?_
  obtain ⟨_, _, ⟨T104, L104, k104, n104⟩, -, X104, ⟨Lc104, hQ104, l104, y104, z104⟩, st104⟩ := Jvm.LawKit.callS X103 hx (y := (⟨"com/example/roomwire/roomwire/core/NightStateOverlayPinLaw", "st", "(II)Lcom/example/roomwire/roomwire/core/Status;"⟩ : MethodName)) hown (mvT hZ (hw _ (List.mem_of_getElem? (i := 14) rfl))) (mvT hZ (hw _ (List.mem_of_getElem? (i := 15) rfl))) (mvT hZ (hw _ (List.mem_of_getElem? (i := 5) rfl))) (mvT hZ (hw _ (List.mem_of_getElem? (i := 16) rfl))) (by decide) (backOf (W := 4) (rm3 l Z a0 hw [] wO wC wI cB G p3 (8 : Int32) T102.heap n0 (Nat.le_trans Z0 K102'.1) O102 ) hZ (hw _ (List.mem_of_getElem? (i := 16) rfl)) (hw _ (List.mem_of_getElem? (i := 5) rfl)) (by decide) (by decide)) (g := (mkF m 58 #[.val (.long q0), .second, .val (.long q1), .second, .val (.long q2), .second, .val (.int p3), .val (.int v5), .val (.int v9), .val (.int v16), .val (.int v20), .val (.int v28), .val (.int v33), .unset, .unset, .unset] [(.int (8 : Int32)), (.int p3), (own_stv (own_code p3 (6 : Int32)) wO wC), u_102, (.ref b101), (.ref b101)])) rfl (by rw [hml]; rfl) (argsL := [(.int p3), (.int (8 : Int32))]) (rest := [(own_stv (own_code p3 (6 : Int32)) wO wC), u_102, (.ref b101), (.ref b101)]) (lenOf pd_8 rfl) rfl (by show 2 * 0 + _ ≤ _; exact own_cW (own_cK (own_cK (own_cK (own_cK own_c0 rfl) rfl) (Jvm.Free.XT.cat1 hu_102)) (Jvm.Free.XT.cat1 (own_stv_ref (own_code p3 (6 : Int32)) wO wC)))) (hb hby at_58) (fun _ _ => ⟨rfl, e103, (by decide : 2 + 0 ≤ 32), (by decide : 7 + 0 ≤ 128)⟩)
  dsimp only [Pt.U, Pt.locs, Pt.cells, Pt.slots] at X104 l104 y104 z104 st104 hQ104
  rw [l104, y104, z104] at X104
  obtain ⟨rfl, N104q, K104⟩ := hQ104
  have N104 := Fr.app N103 N104q
  have e104 : T104.heap = T102.heap := K104
  refine own_go (B := T104.setTop (mkF m 61 #[.val (.long q0), .second, .val (.long q1), .second, .val (.long q2), .second, .val (.int p3), .val (.int v5), .val (.int v9), .val (.int v16), .val (.int v20), .val (.int v28), .val (.int v33), .unset, .unset, .unset] [(own_stv (own_code p3 (8 : Int32)) wO wC), (own_stv (own_code p3 (6 : Int32)) wO wC), u_102, (.ref b101), (.ref b101)])) (st104) ?_
  refine own_go (B := T104.setTop (mkF m 63 #[.val (.long q0), .second, .val (.long q1), .second, .val (.long q2), .second, .val (.int p3), .val (.int v5), .val (.int v9), .val (.int v16), .val (.int v20), .val (.int v28), .val (.int v33), .unset, .unset, .unset] [(.int p3), (own_stv (own_code p3 (8 : Int32)) wO wC), (own_stv (own_code p3 (6 : Int32)) wO wC), u_102, (.ref b101), (.ref b101)])) (fun _ k => XS.iload X104.here hx rfl (hb hby at_61) rfl k) ?_
  refine own_go (B := T104.setTop (mkF m 65 #[.val (.long q0), .second, .val (.long q1), .second, .val (.long q2), .second, .val (.int p3), .val (.int v5), .val (.int v9), .val (.int v16), .val (.int v20), .val (.int v28), .val (.int v33), .unset, .unset, .unset] [(.int (10 : Int32)), (.int p3), (own_stv (own_code p3 (8 : Int32)) wO wC), (own_stv (own_code p3 (6 : Int32)) wO wC), u_102, (.ref b101), (.ref b101)])) (fun _ k => XS.bipush X104.here hx rfl (hb hby at_63) k) ?_
  obtain ⟨_, _, ⟨T105, L105, k105, n105⟩, -, X105, ⟨Lc105, hQ105, l105, y105, z105⟩, st105⟩ := Jvm.LawKit.callS X104 hx (y := (⟨"com/example/roomwire/roomwire/core/NightStateOverlayPinLaw", "st", "(II)Lcom/example/roomwire/roomwire/core/Status;"⟩ : MethodName)) hown (mvT hZ (hw _ (List.mem_of_getElem? (i := 14) rfl))) (mvT hZ (hw _ (List.mem_of_getElem? (i := 15) rfl))) (mvT hZ (hw _ (List.mem_of_getElem? (i := 5) rfl))) (mvT hZ (hw _ (List.mem_of_getElem? (i := 16) rfl))) (by decide) (backOf (W := 5) (rm3 l Z a0 hw [] wO wC wI cB G p3 (10 : Int32) T102.heap n0 (Nat.le_trans Z0 K102'.1) O102 ) hZ (hw _ (List.mem_of_getElem? (i := 16) rfl)) (hw _ (List.mem_of_getElem? (i := 5) rfl)) (by decide) (by decide)) (g := (mkF m 65 #[.val (.long q0), .second, .val (.long q1), .second, .val (.long q2), .second, .val (.int p3), .val (.int v5), .val (.int v9), .val (.int v16), .val (.int v20), .val (.int v28), .val (.int v33), .unset, .unset, .unset] [(.int (10 : Int32)), (.int p3), (own_stv (own_code p3 (8 : Int32)) wO wC), (own_stv (own_code p3 (6 : Int32)) wO wC), u_102, (.ref b101), (.ref b101)])) rfl (by rw [hml]; rfl) (argsL := [(.int p3), (.int (10 : Int32))]) (rest := [(own_stv (own_code p3 (8 : Int32)) wO wC), (own_stv (own_code p3 (6 : Int32)) wO wC), u_102, (.ref b101), (.ref b101)]) (lenOf pd_8 rfl) rfl (by show 2 * 0 + _ ≤ _; exact own_cW (own_cK (own_cK (own_cK (own_cK (own_cK own_c0 rfl) rfl) (Jvm.Free.XT.cat1 hu_102)) (Jvm.Free.XT.cat1 (own_stv_ref (own_code p3 (6 : Int32)) wO wC))) (Jvm.Free.XT.cat1 (own_stv_ref (own_code p3 (8 : Int32)) wO wC)))) (hb hby at_65) (fun _ _ => ⟨rfl, e104, (by decide : 2 + 0 ≤ 32), (by decide : 7 + 0 ≤ 128)⟩)
  dsimp only [Pt.U, Pt.locs, Pt.cells, Pt.slots] at X105 l105 y105 z105 st105 hQ105
  rw [l105, y105, z105] at X105
  obtain ⟨rfl, N105q, K105⟩ := hQ105
  have N105 := Fr.app N104 N105q
  have e105 : T105.heap = T102.heap := K105
  refine own_go (B := T105.setTop (mkF m 68 #[.val (.long q0), .second, .val (.long q1), .second, .val (.long q2), .second, .val (.int p3), .val (.int v5), .val (.int v9), .val (.int v16), .val (.int v20), .val (.int v28), .val (.int v33), .unset, .unset, .unset] [(own_stv (own_code p3 (10 : Int32)) wO wC), (own_stv (own_code p3 (8 : Int32)) wO wC), (own_stv (own_code p3 (6 : Int32)) wO wC), u_102, (.ref b101), (.ref b101)])) (st105) ?_
  refine own_go (B := T105.setTop (mkF m 70 #[.val (.long q0), .second, .val (.long q1), .second, .val (.long q2), .second, .val (.int p3), .val (.int v5), .val (.int v9), .val (.int v16), .val (.int v20), .val (.int v28), .val (.int v33), .unset, .unset, .unset] [(.int v16), (own_stv (own_code p3 (10 : Int32)) wO wC), (own_stv (own_code p3 (8 : Int32)) wO wC), (own_stv (own_code p3 (6 : Int32)) wO wC), u_102, (.ref b101), (.ref b101)])) (fun _ k => XS.iload X105.here hx rfl (hb hby at_68) rfl k) ?_
  refine own_go (B := T105.setTop (mkF m 72 #[.val (.long q0), .second, .val (.long q1), .second, .val (.long q2), .second, .val (.int p3), .val (.int v5), .val (.int v9), .val (.int v16), .val (.int v20), .val (.int v28), .val (.int v33), .unset, .unset, .unset] [(.int p3), (.int v16), (own_stv (own_code p3 (10 : Int32)) wO wC), (own_stv (own_code p3 (8 : Int32)) wO wC), (own_stv (own_code p3 (6 : Int32)) wO wC), u_102, (.ref b101), (.ref b101)])) (fun _ k => XS.iload X105.here hx rfl (hb hby at_70) rfl k) ?_
  refine own_go (B := T105.setTop (mkF m 73 #[.val (.long q0), .second, .val (.long q1), .second, .val (.long q2), .second, .val (.int p3), .val (.int v5), .val (.int v9), .val (.int v16), .val (.int v20), .val (.int v28), .val (.int v33), .unset, .unset, .unset] [(.int (1 : Int32)), (.int p3), (.int v16), (own_stv (own_code p3 (10 : Int32)) wO wC), (own_stv (own_code p3 (8 : Int32)) wO wC), (own_stv (own_code p3 (6 : Int32)) wO wC), u_102, (.ref b101), (.ref b101)])) (fun _ k => XS.iconst X105.here hx rfl (hb hby at_72) k) ?_
  obtain ⟨_, _, ⟨T106, L106, k106, n106⟩, -, X106, ⟨Lc106, hQ106, l106, y106, z106⟩, st106⟩ := Jvm.LawKit.callS X105 hx (y := (⟨"com/example/roomwire/roomwire/core/NightStateOverlayPinLaw", "num", "(III)Ljava/lang/Integer;"⟩ : MethodName)) hown (mvT hZ (hw _ (List.mem_of_getElem? (i := 3) rfl))) (mvT hZ (hw _ (List.mem_of_getElem? (i := 4) rfl))) (mvT hZ (hw _ (List.mem_of_getElem? (i := 5) rfl))) (mvT hZ (hw _ (List.mem_of_getElem? (i := 6) rfl))) (by decide) (backOf (W := 6) (rm1 l Z a0 hw [] wO wC wI cB G v16 p3 (1 : Int32) T102.heap n0 (Nat.le_trans Z0 K102'.1) O102 ) hZ (hw _ (List.mem_of_getElem? (i := 6) rfl)) (hw _ (List.mem_of_getElem? (i := 5) rfl)) (by decide) (by decide)) (g := (mkF m 73 #[.val (.long q0), .second, .val (.long q1), .second, .val (.long q2), .second, .val (.int p3), .val (.int v5), .val (.int v9), .val (.int v16), .val (.int v20), .val (.int v28), .val (.int v33), .unset, .unset, .unset] [(.int (1 : Int32)), (.int p3), (.int v16), (own_stv (own_code p3 (10 : Int32)) wO wC), (own_stv (own_code p3 (8 : Int32)) wO wC), (own_stv (own_code p3 (6 : Int32)) wO wC), u_102, (.ref b101), (.ref b101)])) rfl (by rw [hml]; rfl) (argsL := [(.int v16), (.int p3), (.int (1 : Int32))]) (rest := [(own_stv (own_code p3 (10 : Int32)) wO wC), (own_stv (own_code p3 (8 : Int32)) wO wC), (own_stv (own_code p3 (6 : Int32)) wO wC), u_102, (.ref b101), (.ref b101)]) (lenOf pd_7 rfl) rfl (by show 2 * 0 + _ ≤ _; exact own_cW (own_cK (own_cK (own_cK (own_cK (own_cK (own_cK own_c0 rfl) rfl) (Jvm.Free.XT.cat1 hu_102)) (Jvm.Free.XT.cat1 (own_stv_ref (own_code p3 (6 : Int32)) wO wC))) (Jvm.Free.XT.cat1 (own_stv_ref (own_code p3 (8 : Int32)) wO wC))) (Jvm.Free.XT.cat1 (own_stv_ref (own_code p3 (10 : Int32)) wO wC)))) (hb hby at_73) (fun _ _ => ⟨rfl, e105, (by decide : 2 + 1 ≤ 32), (by decide : 7 + 1 ≤ 128)⟩)
  dsimp only [Pt.U, Pt.locs, Pt.cells, Pt.slots] at X106 l106 y106 z106 st106 hQ106
  rw [l106, y106, z106] at X106
  obtain ⟨u_106, rfl, N106q, K106, hu_106, NI_106⟩ := hQ106
  have N106 := Fr.app N105 N106q
  have O106 := O102.keep K106 all0
  have K106' : Keep h0 T106.heap ([] : List Addr) := K102'.trans K106 all0
  refine own_go (B := T106.setTop (mkF m 76 #[.val (.long q0), .second, .val (.long q1), .second, .val (.long q2), .second, .val (.int p3), .val (.int v5), .val (.int v9), .val (.int v16), .val (.int v20), .val (.int v28), .val (.int v33), .unset, .unset, .unset] [u_106, (own_stv (own_code p3 (10 : Int32)) wO wC), (own_stv (own_code p3 (8 : Int32)) wO wC), (own_stv (own_code p3 (6 : Int32)) wO wC), u_102, (.ref b101), (.ref b101)])) (st106) ?_
  refine own_go (B := T106.setTop (mkF m 78 #[.val (.long q0), .second, .val (.long q1), .second, .val (.long q2), .second, .val (.int p3), .val (.int v5), .val (.int v9), .val (.int v16), .val (.int v20), .val (.int v28), .val (.int v33), .unset, .unset, .unset] [(.int v28), u_106, (own_stv (own_code p3 (10 : Int32)) wO wC), (own_stv (own_code p3 (8 : Int32)) wO wC), (own_stv (own_code p3 (6 : Int32)) wO wC), u_102, (.ref b101), (.ref b101)])) (fun _ k => XS.iload X106.here hx rfl (hb hby at_76) rfl k) ?_
  refine own_go (B := T106.setTop (mkF m 80 #[.val (.long q0), .second, .val (.long q1), .second, .val (.long q2), .second, .val (.int p3), .val (.int v5), .val (.int v9), .val (.int v16), .val (.int v20), .val (.int v28), .val (.int v33), .unset, .unset, .unset] [(.int p3), (.int v28), u_106, (own_stv (own_code p3 (10 : Int32)) wO wC), (own_stv (own_code p3 (8 : Int32)) wO wC), (own_stv (own_code p3 (6 : Int32)) wO wC), u_102, (.ref b101), (.ref b101)])) (fun _ k => XS.iload X106.here hx rfl (hb hby at_78) rfl k) ?_
  refine own_go (B := T106.setTop (mkF m 81 #[.val (.long q0), .second, .val (.long q1), .second, .val (.long q2), .second, .val (.int p3), .val (.int v5), .val (.int v9), .val (.int v16), .val (.int v20), .val (.int v28), .val (.int v33), .unset, .unset, .unset] [(.int (2 : Int32)), (.int p3), (.int v28), u_106, (own_stv (own_code p3 (10 : Int32)) wO wC), (own_stv (own_code p3 (8 : Int32)) wO wC), (own_stv (own_code p3 (6 : Int32)) wO wC), u_102, (.ref b101), (.ref b101)])) (fun _ k => XS.iconst X106.here hx rfl (hb hby at_80) k) ?_
  obtain ⟨_, _, ⟨T107, L107, k107, n107⟩, -, X107, ⟨Lc107, hQ107, l107, y107, z107⟩, st107⟩ := Jvm.LawKit.callS X106 hx (y := (⟨"com/example/roomwire/roomwire/core/NightStateOverlayPinLaw", "num", "(III)Ljava/lang/Integer;"⟩ : MethodName)) hown (mvT hZ (hw _ (List.mem_of_getElem? (i := 3) rfl))) (mvT hZ (hw _ (List.mem_of_getElem? (i := 4) rfl))) (mvT hZ (hw _ (List.mem_of_getElem? (i := 5) rfl))) (mvT hZ (hw _ (List.mem_of_getElem? (i := 6) rfl))) (by decide) (backOf (W := 7) (rm1 l Z a0 hw [] wO wC wI cB G v28 p3 (2 : Int32) T106.heap n0 (Nat.le_trans Z0 K106'.1) O106 ) hZ (hw _ (List.mem_of_getElem? (i := 6) rfl)) (hw _ (List.mem_of_getElem? (i := 5) rfl)) (by decide) (by decide)) (g := (mkF m 81 #[.val (.long q0), .second, .val (.long q1), .second, .val (.long q2), .second, .val (.int p3), .val (.int v5), .val (.int v9), .val (.int v16), .val (.int v20), .val (.int v28), .val (.int v33), .unset, .unset, .unset] [(.int (2 : Int32)), (.int p3), (.int v28), u_106, (own_stv (own_code p3 (10 : Int32)) wO wC), (own_stv (own_code p3 (8 : Int32)) wO wC), (own_stv (own_code p3 (6 : Int32)) wO wC), u_102, (.ref b101), (.ref b101)])) rfl (by rw [hml]; rfl) (argsL := [(.int v28), (.int p3), (.int (2 : Int32))]) (rest := [u_106, (own_stv (own_code p3 (10 : Int32)) wO wC), (own_stv (own_code p3 (8 : Int32)) wO wC), (own_stv (own_code p3 (6 : Int32)) wO wC), u_102, (.ref b101), (.ref b101)]) (lenOf pd_7 rfl) rfl (by show 2 * 0 + _ ≤ _; exact own_cW (own_cK (own_cK (own_cK (own_cK (own_cK (own_cK (own_cK own_c0 rfl) rfl) (Jvm.Free.XT.cat1 hu_102)) (Jvm.Free.XT.cat1 (own_stv_ref (own_code p3 (6 : Int32)) wO wC))) (Jvm.Free.XT.cat1 (own_stv_ref (own_code p3 (8 : Int32)) wO wC))) (Jvm.Free.XT.cat1 (own_stv_ref (own_code p3 (10 : Int32)) wO wC))) (Jvm.Free.XT.cat1 hu_106))) (hb hby at_81) (fun _ _ => ⟨rfl, rfl, (by decide : 3 + 1 ≤ 32), (by decide : 8 + 1 ≤ 128)⟩)
  dsimp only [Pt.U, Pt.locs, Pt.cells, Pt.slots] at X107 l107 y107 z107 st107 hQ107
  rw [l107, y107, z107] at X107
  obtain ⟨u_107, rfl, N107q, K107, hu_107, NI_107⟩ := hQ107
  have N107 := Fr.app N106 N107q
  have O107 := O106.keep K107 all0
  have K107' : Keep h0 T107.heap ([] : List Addr) := K106'.trans K107 all0
  refine own_go (B := T107.setTop (mkF m 84 #[.val (.long q0), .second, .val (.long q1), .second, .val (.long q2), .second, .val (.int p3), .val (.int v5), .val (.int v9), .val (.int v16), .val (.int v20), .val (.int v28), .val (.int v33), .unset, .unset, .unset] [u_107, u_106, (own_stv (own_code p3 (10 : Int32)) wO wC), (own_stv (own_code p3 (8 : Int32)) wO wC), (own_stv (own_code p3 (6 : Int32)) wO wC), u_102, (.ref b101), (.ref b101)])) (st107) ?_
  obtain ⟨_, _, ⟨T108, L108, k108, n108⟩, -, X108, ⟨Lc108, hQ108, l108, y108, z108⟩, st108⟩ := X107.specialBack hx (y := (⟨"com/example/roomwire/roomwire/core/NightState", "<init>", "(Ljava/lang/Integer;Lcom/example/roomwire/roomwire/core/Status;Lcom/example/roomwire/roomwire/core/Status;Lcom/example/roomwire/roomwire/core/Status;Ljava/lang/Integer;Ljava/lang/Integer;)V"⟩ : MethodName)) rfl hown (mvT hZ (hw _ (List.mem_of_getElem? (i := 37) rfl))) (mvT hZ (hw _ (List.mem_of_getElem? (i := 38) rfl))) (mvT hZ (hw _ (List.mem_of_getElem? (i := 39) rfl))) (by decide) (backOf (W := 1) (rm8 l Z a0 hw [] wO wC wI cB G b101 u_102 (own_stv (own_code p3 (6 : Int32)) wO wC) (own_stv (own_code p3 (8 : Int32)) wO wC) (own_stv (own_code p3 (10 : Int32)) wO wC) u_106 u_107 T107.heap n0 (Nat.le_trans Z0 K107'.1) O107 hu_102 (own_stv_ref (own_code p3 (6 : Int32)) wO wC) (own_stv_ref (own_code p3 (8 : Int32)) wO wC) (own_stv_ref (own_code p3 (10 : Int32)) wO wC) hu_106 hu_107 (((A101.keep K102).keep K106).keep K107) g_b101 (((F_bookingLimit_b101.keep K102 nin0).keep K106 nin0).keep K107 nin0) (((F_master_b101.keep K102 nin0).keep K106 nin0).keep K107 nin0) (((F_arrival_b101.keep K102 nin0).keep K106 nin0).keep K107 nin0) (((F_departure_b101.keep K102 nin0).keep K106 nin0).keep K107 nin0) (((F_minStay_b101.keep K102 nin0).keep K106 nin0).keep K107 nin0) (((F_maxStay_b101.keep K102 nin0).keep K106 nin0).keep K107 nin0)) hZ (hw _ (List.mem_of_getElem? (i := 39) rfl)) (hw _ (List.mem_of_getElem? (i := 2) rfl)) (by decide) (by decide)) (g := (mkF m 84 #[.val (.long q0), .second, .val (.long q1), .second, .val (.long q2), .second, .val (.int p3), .val (.int v5), .val (.int v9), .val (.int v16), .val (.int v20), .val (.int v28), .val (.int v33), .unset, .unset, .unset] [u_107, u_106, (own_stv (own_code p3 (10 : Int32)) wO wC), (own_stv (own_code p3 (8 : Int32)) wO wC), (own_stv (own_code p3 (6 : Int32)) wO wC), u_102, (.ref b101), (.ref b101)])) rfl (by rw [hml]; rfl) (Steps.refl _) (a := b101) (argsL := [u_102, (own_stv (own_code p3 (6 : Int32)) wO wC), (own_stv (own_code p3 (8 : Int32)) wO wC), (own_stv (own_code p3 (10 : Int32)) wO wC), u_106, u_107]) (rest := [(.ref b101)]) (lenOf pd_5 rfl) rfl (by show 2 * 0 + _ ≤ _; exact Nat.le_of_eq rfl) (hb hby at_84) (fun _ _ => ⟨rfl, rfl, (by decide : 4 + 0 ≤ 32), (by decide : 9 + 0 ≤ 128)⟩)
  dsimp only [Pt.U, Pt.locs, Pt.cells, Pt.slots] at X108 l108 y108 z108 st108 hQ108
  rw [l108, y108, z108] at X108
  obtain ⟨rfl, N108q, K108, P0_108, P1_108, P2_108, P3_108, P4_108, P5_108⟩ := hQ108
  have N108 := Fr.app N107 N108q
  have O108 := O107.keep K108 (allS g_b101 all0)
  have K108' : Keep h0 T108.heap ([] : List Addr) := K107'.trans K108 (allS (Or.inr sz_b101) all0)
  refine own_go (B := T108.setTop (mkF m 87 #[.val (.long q0), .second, .val (.long q1), .second, .val (.long q2), .second, .val (.int p3), .val (.int v5), .val (.int v9), .val (.int v16), .val (.int v20), .val (.int v28), .val (.int v33), .unset, .unset, .unset] [(.ref b101)])) (fun _ k => st108.trans k) ?_
  refine own_go (B := T108.setTop (mkF m 89 #[.val (.long q0), .second, .val (.long q1), .second, .val (.long q2), .second, .val (.int p3), .val (.int v5), .val (.int v9), .val (.int v16), .val (.int v20), .val (.int v28), .val (.int v33), .val (.ref b101), .unset, .unset] [])) (fun _ k => XS.astore X108.here hx rfl (hb hby at_87) rfl rfl (l' := #[.val (.long q0), .second, .val (.long q1), .second, .val (.long q2), .second, .val (.int p3), .val (.int v5), .val (.int v9), .val (.int v16), .val (.int v20), .val (.int v28), .val (.int v33), .val (.ref b101), .unset, .unset]) rfl k) ?_
  obtain ⟨T109, h109, X109, e109, E109, A109, D109, -, st109⟩ := newO X108 hx hZ hown (hw _ (List.mem_of_getElem? (i := 0) rfl)) (hw _ (List.mem_of_getElem? (i := 1) rfl)) (hw _ (List.mem_of_getElem? (i := 2) rfl)) rfl (g := (mkF m 89 #[.val (.long q0), .second, .val (.long q1), .second, .val (.long q2), .second, .val (.int p3), .val (.int v5), .val (.int v9), .val (.int v16), .val (.int v20), .val (.int v28), .val (.int v33), .val (.ref b101), .unset, .unset] [])) rfl (hb hby at_89) (by decide) (by decide)
  obtain ⟨b109, g109⟩ : ∃ z, z = T108.heap.size := ⟨_, rfl⟩
  rw [← g109] at A109 D109 st109
  have g_b109 : n0 ≤ b109 := Nat.le_trans (Nat.le_trans Z0 K108'.1) (Nat.le_of_eq g109.symm)
  have sz_b109 : h0.size ≤ b109 := Nat.le_trans K108'.1 (Nat.le_of_eq g109.symm)
  have ne109_1 : b101 ≠ b109 := Nat.ne_of_lt (Nat.lt_of_lt_of_le ((((A101.keep K102).keep K106).keep K107).keep K108).lt (Nat.le_of_eq g109.symm))
  have O109 := O108.ext E109
  have K109' : Keep h0 h109 ([] : List Addr) := K108'.ext E109
  have F_bookingLimit_b109 : Fld Z h109 b109 "com/example/roomwire/roomwire/core/NightState" "bookingLimit" "Ljava/lang/Integer;" .null := D109 (Or.inr (hw _ (List.mem_of_getElem? (i := 47) rfl))) (ty := (.object "java/lang/Integer")) (by decide)
  have F_master_b109 : Fld Z h109 b109 "com/example/roomwire/roomwire/core/NightState" "master" "Lcom/example/roomwire/roomwire/core/Status;" .null := D109 (Or.inr (hw _ (List.mem_of_getElem? (i := 49) rfl))) (ty := (.object "com/example/roomwire/roomwire/core/Status")) (by decide)
  have F_arrival_b109 : Fld Z h109 b109 "com/example/roomwire/roomwire/core/NightState" "arrival" "Lcom/example/roomwire/roomwire/core/Status;" .null := D109 (Or.inr (hw _ (List.mem_of_getElem? (i := 51) rfl))) (ty := (.object "com/example/roomwire/roomwire/core/Status")) (by decide)
  have F_departure_b109 : Fld Z h109 b109 "com/example/roomwire/roomwire/core/NightState" "departure" "Lcom/example/roomwire/roomwire/core/Status;" .null := D109 (Or.inr (hw _ (List.mem_of_getElem? (i := 53) rfl))) (ty := (.object "com/example/roomwire/roomwire/core/Status")) (by decide)
  have F_minStay_b109 : Fld Z h109 b109 "com/example/roomwire/roomwire/core/NightState" "minStay" "Ljava/lang/Integer;" .null := D109 (Or.inr (hw _ (List.mem_of_getElem? (i := 55) rfl))) (ty := (.object "java/lang/Integer")) (by decide)
  have F_maxStay_b109 : Fld Z h109 b109 "com/example/roomwire/roomwire/core/NightState" "maxStay" "Ljava/lang/Integer;" .null := D109 (Or.inr (hw _ (List.mem_of_getElem? (i := 57) rfl))) (ty := (.object "java/lang/Integer")) (by decide)
  refine own_go (B := T109.setTop (mkF m 92 #[.val (.long q0), .second, .val (.long q1), .second, .val (.long q2), .second, .val (.int p3), .val (.int v5), .val (.int v9), .val (.int v16), .val (.int v20), .val (.int v28), .val (.int v33), .val (.ref b101), .unset, .unset] [(.ref b109)])) (st109) ?_
  refine own_go (B := T109.setTop (mkF m 93 #[.val (.long q0), .second, .val (.long q1), .second, .val (.long q2), .second, .val (.int p3), .val (.int v5), .val (.int v9), .val (.int v16), .val (.int v20), .val (.int v28), .val (.int v33), .val (.ref b101), .unset, .unset] [(.ref b109), (.ref b109)])) (fun _ k => XS.dup X109.here hx rfl (hb hby at_92) rfl rfl k) ?_
  refine own_go (B := T109.setTop (mkF m 95 #[.val (.long q0), .second, .val (.long q1), .second, .val (.long q2), .second, .val (.int p3), .val (.int v5), .val (.int v9), .val (.int v16), .val (.int v20), .val (.int v28), .val (.int v33), .val (.ref b101), .unset, .unset] [(.int v9), (.ref b109), (.ref b109)])) (fun _ k => XS.iload X109.here hx rfl (hb hby at_93) rfl k) ?_
  refine own_go (B := T109.setTop (mkF m 97 #[.val (.long q0), .second, .val (.long q1), .second, .val (.long q2), .second, .val (.int p3), .val (.int v5), .val (.int v9), .val (.int v16), .val (.int v20), .val (.int v28), .val (.int v33), .val (.ref b101), .unset, .unset] [(.int p3), (.int v9), (.ref b109), (.ref b109)])) (fun _ k => XS.iload X109.here hx rfl (hb hby at_95) rfl k) ?_
  refine own_go (B := T109.setTop (mkF m 98 #[.val (.long q0), .second, .val (.long q1), .second, .val (.long q2), .second, .val (.int p3), .val (.int v5), .val (.int v9), .val (.int v16), .val (.int v20), .val (.int v28), .val (.int v33), .val (.ref b101), .unset, .unset] [(.int (3 : Int32)), (.int p3), (.int v9), (.ref b109), (.ref b109)])) (fun _ k => XS.iconst X109.here hx rfl (hb hby at_97) k) ?_
  obtain ⟨_, _, ⟨T110, L110, k110, n110⟩, -, X110, ⟨Lc110, hQ110, l110, y110, z110⟩, st110⟩ := Jvm.LawKit.callS X109 hx (y := (⟨"com/example/roomwire/roomwire/core/NightStateOverlayPinLaw", "num", "(III)Ljava/lang/Integer;"⟩ : MethodName)) hown (mvT hZ (hw _ (List.mem_of_getElem? (i := 3) rfl))) (mvT hZ (hw _ (List.mem_of_getElem? (i := 4) rfl))) (mvT hZ (hw _ (List.mem_of_getElem? (i := 5) rfl))) (mvT hZ (hw _ (List.mem_of_getElem? (i := 6) rfl))) (by decide) (backOf (W := 2) (rm1 l Z a0 hw [] wO wC wI cB G v9 p3 (3 : Int32) h109 n0 (Nat.le_trans Z0 K109'.1) O109 ) hZ (hw _ (List.mem_of_getElem? (i := 6) rfl)) (hw _ (List.mem_of_getElem? (i := 5) rfl)) (by decide) (by decide)) (g := (mkF m 98 #[.val (.long q0), .second, .val (.long q1), .second, .val (.long q2), .second, .val (.int p3), .val (.int v5), .val (.int v9), .val (.int v16), .val (.int v20), .val (.int v28), .val (.int v33), .val (.ref b101), .unset, .unset] [(.int (3 : Int32)), (.int p3), (.int v9), (.ref b109), (.ref b109)])) rfl (by rw [hml]; rfl) (argsL := [(.int v9), (.int p3), (.int (3 : Int32))]) (rest := [(.ref b109), (.ref b109)]) (lenOf pd_7 rfl) rfl (by show 2 * 0 + _ ≤ _; exact Nat.le_of_eq rfl) (hb hby at_98) (fun _ _ => ⟨rfl, e109, (by decide : 5 + 1 ≤ 32), (by decide : 15 + 1 ≤ 128)⟩)
  dsimp only [Pt.U, Pt.locs, Pt.cells, Pt.slots] at X110 l110 y110 z110 st110 hQ110
  rw [l110, y110, z110] at X110
  obtain ⟨u_110, rfl, N110q, K110, hu_110, NI_110⟩ := hQ110
  have N110 := Fr.app N108 N110q
  have O110 := O109.keep K110 all0
  have K110' : Keep h0 T110.heap ([] : List Addr) := K109'.trans K110 all0
  refine own_go (B := T110.setTop (mkF m 101 #[.val (.long q0), .second, .val (.long q1), .second, .val (.long q2), .second, .val (.int p3), .val (.int v5), .val (.int v9), .val (.int v16), .val (.int v20), .val (.int v28), .val (.int v33), .val (.ref b101), .unset, .unset] [u_110, (.ref b109), (.ref b109)])) (st110) ?_
  refine own_go (B := T110.setTop (mkF m 103 #[.val (.long q0), .second, .val (.long q1), .second, .val (.long q2), .second, .val (.int p3), .val (.int v5), .val (.int v9), .val (.int v16), .val (.int v20), .val (.int v28), .val (.int v33), .val (.ref b101), .unset, .unset] [(.int p3), u_110, (.ref b109), (.ref b109)])) (fun _ k => XS.iload X110.here hx rfl (hb hby at_101) rfl k) ?_
  refine own_go (B := T110.setTop (mkF m 105 #[.val (.long q0), .second, .val (.long q1), .second, .val (.long q2), .second, .val (.int p3), .val (.int v5), .val (.int v9), .val (.int v16), .val (.int v20), .val (.int v28), .val (.int v33), .val (.ref b101), .unset, .unset] [(.int (12 : Int32)), (.int p3), u_110, (.ref b109), (.ref b109)])) (fun _ k => XS.bipush X110.here hx rfl (hb hby at_103) k) ?_
  obtain ⟨_, _, ⟨T111, L111, k111, n111⟩, -, X111, ⟨Lc111, hQ111, l111, y111, z111⟩, st111⟩ := Jvm.LawKit.callS X110 hx (y := (⟨"com/example/roomwire/roomwire/core/NightStateOverlayPinLaw", "st", "(II)Lcom/example/roomwire/roomwire/core/Status;"⟩ : MethodName)) hown (mvT hZ (hw _ (List.mem_of_getElem? (i := 14) rfl))) (mvT hZ (hw _ (List.mem_of_getElem? (i := 15) rfl))) (mvT hZ (hw _ (List.mem_of_getElem? (i := 5) rfl))) (mvT hZ (hw _ (List.mem_of_getElem? (i := 16) rfl))) (by decide) (backOf (W := 3) (rm3 l Z a0 hw [] wO wC wI cB G p3 (12 : Int32) T110.heap n0 (Nat.le_trans Z0 K110'.1) O110 ) hZ (hw _ (List.mem_of_getElem? (i := 16) rfl)) (hw _ (List.mem_of_getElem? (i := 5) rfl)) (by decide) (by decide)) (g := (mkF m 105 #[.val (.long q0), .second, .val (.long q1), .second, .val (.long q2), .second, .val (.int p3), .val (.int v5), .val (.int v9), .val (.int v16), .val (.int v20), .val (.int v28), .val (.int v33), .val (.ref b101), .unset, .unset] [(.int (12 : Int32)), (.int p3), u_110, (.ref b109), (.ref b109)])) rfl (by rw [hml]; rfl) (argsL := [(.int p3), (.int (12 : Int32))]) (rest := [u_110, (.ref b109), (.ref b109)]) (lenOf pd_8 rfl) rfl (by show 2 * 0 + _ ≤ _; exact own_cW (own_cK (own_cK (own_cK own_c0 rfl) rfl) (Jvm.Free.XT.cat1 hu_110))) (hb hby at_105) (fun _ _ => ⟨rfl, rfl, (by decide : 6 + 0 ≤ 32), (by decide : 16 + 0 ≤ 128)⟩)
  dsimp only [Pt.U, Pt.locs, Pt.cells, Pt.slots] at X111 l111 y111 z111 st111 hQ111
  rw [l111, y111, z111] at X111
  obtain ⟨rfl, N111q, K111⟩ := hQ111
  have N111 := Fr.app N110 N111q
  have e111 : T111.heap = T110.heap := K111
  refine own_go (B := T111.setTop (mkF m 108 #[.val (.long q0), .second, .val (.long q1), .second, .val (.long q2), .second, .val (.int p3), .val (.int v5), .val (.int v9), .val (.int v16), .val (.int v20), .val (.int v28), .val (.int v33), .val (.ref b101), .unset, .unset] [(own_stv (own_code p3 (12 : Int32)) wO wC), u_110, (.ref b109), (.ref b109)])) (st111) ?_
  refine own_go (B := T111.setTop (mkF m 110 #[.val (.long q0), .second, .val (.long q1), .second, .val (.long q2), .second, .val (.int p3), .val (.int v5), .val (.int v9), .val (.int v16), .val (.int v20), .val (.int v28), .val (.int v33), .val (.ref b101), .unset, .unset] [(.int p3), (own_stv (own_code p3 (12 : Int32)) wO wC), u_110, (.ref b109), (.ref b109)])) (fun _ k => XS.iload X111.here hx rfl (hb hby at_108) rfl k) ?_
  refine own_go (B := T111.setTop (mkF m 112 #[.val (.long q0), .second, .val (.long q1), .second, .val (.long q2), .second, .val (.int p3), .val (.int v5), .val (.int v9), .val (.int v16), .val (.int v20), .val (.int v28), .val (.int v33), .val (.ref b101), .unset, .unset] [(.int (14 : Int32)), (.int p3), (own_stv (own_code p3 (12 : Int32)) wO wC), u_110, (.ref b109), (.ref b109)])) (fun _ k => XS.bipush X111.here hx rfl (hb hby at_110) k) ?_
  obtain ⟨_, _, ⟨T112, L112, k112, n112⟩, -, X112, ⟨Lc112, hQ112, l112, y112, z112⟩, st112⟩ := Jvm.LawKit.callS X111 hx (y := (⟨"com/example/roomwire/roomwire/core/NightStateOverlayPinLaw", "st", "(II)Lcom/example/roomwire/roomwire/core/Status;"⟩ : MethodName)) hown (mvT hZ (hw _ (List.mem_of_getElem? (i := 14) rfl))) (mvT hZ (hw _ (List.mem_of_getElem? (i := 15) rfl))) (mvT hZ (hw _ (List.mem_of_getElem? (i := 5) rfl))) (mvT hZ (hw _ (List.mem_of_getElem? (i := 16) rfl))) (by decide) (backOf (W := 4) (rm3 l Z a0 hw [] wO wC wI cB G p3 (14 : Int32) T110.heap n0 (Nat.le_trans Z0 K110'.1) O110 ) hZ (hw _ (List.mem_of_getElem? (i := 16) rfl)) (hw _ (List.mem_of_getElem? (i := 5) rfl)) (by decide) (by decide)) (g := (mkF m 112 #[.val (.long q0), .second, .val (.long q1), .second, .val (.long q2), .second, .val (.int p3), .val (.int v5), .val (.int v9), .val (.int v16), .val (.int v20), .val (.int v28), .val (.int v33), .val (.ref b101), .unset, .unset] [(.int (14 : Int32)), (.int p3), (own_stv (own_code p3 (12 : Int32)) wO wC), u_110, (.ref b109), (.ref b109)])) rfl (by rw [hml]; rfl) (argsL := [(.int p3), (.int (14 : Int32))]) (rest := [(own_stv (own_code p3 (12 : Int32)) wO wC), u_110, (.ref b109), (.ref b109)]) (lenOf pd_8 rfl) rfl (by show 2 * 0 + _ ≤ _; exact own_cW (own_cK (own_cK (own_cK (own_cK own_c0 rfl) rfl) (Jvm.Free.XT.cat1 hu_110)) (Jvm.Free.XT.cat1 (own_stv_ref (own_code p3 (12 : Int32)) wO wC)))) (hb hby at_112) (fun _ _ => ⟨rfl, e111, (by decide : 6 + 0 ≤ 32), (by decide : 16 + 0 ≤ 128)⟩)
  dsimp only [Pt.U, Pt.locs, Pt.cells, Pt.slots] at X112 l112 y112 z112 st112 hQ112
  rw [l112, y112, z112] at X112
  obtain ⟨rfl, N112q, K112⟩ := hQ112
  have N112 := Fr.app N111 N112q
  have e112 : T112.heap = T110.heap := K112
  refine own_go (B := T112.setTop (mkF m 115 #[.val (.long q0), .second, .val (.long q1), .second, .val (.long q2), .second, .val (.int p3), .val (.int v5), .val (.int v9), .val (.int v16), .val (.int v20), .val (.int v28), .val (.int v33), .val (.ref b101), .unset, .unset] [(own_stv (own_code p3 (14 : Int32)) wO wC), (own_stv (own_code p3 (12 : Int32)) wO wC), u_110, (.ref b109), (.ref b109)])) (st112) ?_
  refine own_go (B := T112.setTop (mkF m 117 #[.val (.long q0), .second, .val (.long q1), .second, .val (.long q2), .second, .val (.int p3), .val (.int v5), .val (.int v9), .val (.int v16), .val (.int v20), .val (.int v28), .val (.int v33), .val (.ref b101), .unset, .unset] [(.int p3), (own_stv (own_code p3 (14 : Int32)) wO wC), (own_stv (own_code p3 (12 : Int32)) wO wC), u_110, (.ref b109), (.ref b109)])) (fun _ k => XS.iload X112.here hx rfl (hb hby at_115) rfl k) ?_
  refine own_go (B := T112.setTop (mkF m 119 #[.val (.long q0), .second, .val (.long q1), .second, .val (.long q2), .second, .val (.int p3), .val (.int v5), .val (.int v9), .val (.int v16), .val (.int v20), .val (.int v28), .val (.int v33), .val (.ref b101), .unset, .unset] [(.int (16 : Int32)), (.int p3), (own_stv (own_code p3 (14 : Int32)) wO wC), (own_stv (own_code p3 (12 : Int32)) wO wC), u_110, (.ref b109), (.ref b109)])) (fun _ k => XS.bipush X112.here hx rfl (hb hby at_117) k) ?_
  obtain ⟨_, _, ⟨T113, L113, k113, n113⟩, -, X113, ⟨Lc113, hQ113, l113, y113, z113⟩, st113⟩ := Jvm.LawKit.callS X112 hx (y := (⟨"com/example/roomwire/roomwire/core/NightStateOverlayPinLaw", "st", "(II)Lcom/example/roomwire/roomwire/core/Status;"⟩ : MethodName)) hown (mvT hZ (hw _ (List.mem_of_getElem? (i := 14) rfl))) (mvT hZ (hw _ (List.mem_of_getElem? (i := 15) rfl))) (mvT hZ (hw _ (List.mem_of_getElem? (i := 5) rfl))) (mvT hZ (hw _ (List.mem_of_getElem? (i := 16) rfl))) (by decide) (backOf (W := 5) (rm3 l Z a0 hw [] wO wC wI cB G p3 (16 : Int32) T110.heap n0 (Nat.le_trans Z0 K110'.1) O110 ) hZ (hw _ (List.mem_of_getElem? (i := 16) rfl)) (hw _ (List.mem_of_getElem? (i := 5) rfl)) (by decide) (by decide)) (g := (mkF m 119 #[.val (.long q0), .second, .val (.long q1), .second, .val (.long q2), .second, .val (.int p3), .val (.int v5), .val (.int v9), .val (.int v16), .val (.int v20), .val (.int v28), .val (.int v33), .val (.ref b101), .unset, .unset] [(.int (16 : Int32)), (.int p3), (own_stv (own_code p3 (14 : Int32)) wO wC), (own_stv (own_code p3 (12 : Int32)) wO wC), u_110, (.ref b109), (.ref b109)])) rfl (by rw [hml]; rfl) (argsL := [(.int p3), (.int (16 : Int32))]) (rest := [(own_stv (own_code p3 (14 : Int32)) wO wC), (own_stv (own_code p3 (12 : Int32)) wO wC), u_110, (.ref b109), (.ref b109)]) (lenOf pd_8 rfl) rfl (by show 2 * 0 + _ ≤ _; exact own_cW (own_cK (own_cK (own_cK (own_cK (own_cK own_c0 rfl) rfl) (Jvm.Free.XT.cat1 hu_110)) (Jvm.Free.XT.cat1 (own_stv_ref (own_code p3 (12 : Int32)) wO wC))) (Jvm.Free.XT.cat1 (own_stv_ref (own_code p3 (14 : Int32)) wO wC)))) (hb hby at_119) (fun _ _ => ⟨rfl, e112, (by decide : 6 + 0 ≤ 32), (by decide : 16 + 0 ≤ 128)⟩)
  dsimp only [Pt.U, Pt.locs, Pt.cells, Pt.slots] at X113 l113 y113 z113 st113 hQ113
  rw [l113, y113, z113] at X113
  obtain ⟨rfl, N113q, K113⟩ := hQ113
  have N113 := Fr.app N112 N113q
  have e113 : T113.heap = T110.heap := K113
  refine own_go (B := T113.setTop (mkF m 122 #[.val (.long q0), .second, .val (.long q1), .second, .val (.long q2), .second, .val (.int p3), .val (.int v5), .val (.int v9), .val (.int v16), .val (.int v20), .val (.int v28), .val (.int v33), .val (.ref b101), .unset, .unset] [(own_stv (own_code p3 (16 : Int32)) wO wC), (own_stv (own_code p3 (14 : Int32)) wO wC), (own_stv (own_code p3 (12 : Int32)) wO wC), u_110, (.ref b109), (.ref b109)])) (st113) ?_
  refine own_go (B := T113.setTop (mkF m 124 #[.val (.long q0), .second, .val (.long q1), .second, .val (.long q2), .second, .val (.int p3), .val (.int v5), .val (.int v9), .val (.int v16), .val (.int v20), .val (.int v28), .val (.int v33), .val (.ref b101), .unset, .unset] [(.int v20), (own_stv (own_code p3 (16 : Int32)) wO wC), (own_stv (own_code p3 (14 : Int32)) wO wC), (own_stv (own_code p3 (12 : Int32)) wO wC), u_110, (.ref b109), (.ref b109)])) (fun _ k => XS.iload X113.here hx rfl (hb hby at_122) rfl k) ?_
  refine own_go (B := T113.setTop (mkF m 126 #[.val (.long q0), .second, .val (.long q1), .second, .val (.long q2), .second, .val (.int p3), .val (.int v5), .val (.int v9), .val (.int v16), .val (.int v20), .val (.int v28), .val (.int v33), .val (.ref b101), .unset, .unset] [(.int p3), (.int v20), (own_stv (own_code p3 (16 : Int32)) wO wC), (own_stv (own_code p3 (14 : Int32)) wO wC), (own_stv (own_code p3 (12 : Int32)) wO wC), u_110, (.ref b109), (.ref b109)])) (fun _ k => XS.iload X113.here hx rfl (hb hby at_124) rfl k) ?_
  refine own_go (B := T113.setTop (mkF m 127 #[.val (.long q0), .second, .val (.long q1), .second, .val (.long q2), .second, .val (.int p3), .val (.int v5), .val (.int v9), .val (.int v16), .val (.int v20), .val (.int v28), .val (.int v33), .val (.ref b101), .unset, .unset] [(.int (4 : Int32)), (.int p3), (.int v20), (own_stv (own_code p3 (16 : Int32)) wO wC), (own_stv (own_code p3 (14 : Int32)) wO wC), (own_stv (own_code p3 (12 : Int32)) wO wC), u_110, (.ref b109), (.ref b109)])) (fun _ k => XS.iconst X113.here hx rfl (hb hby at_126) k) ?_
  obtain ⟨_, _, ⟨T114, L114, k114, n114⟩, -, X114, ⟨Lc114, hQ114, l114, y114, z114⟩, st114⟩ := Jvm.LawKit.callS X113 hx (y := (⟨"com/example/roomwire/roomwire/core/NightStateOverlayPinLaw", "num", "(III)Ljava/lang/Integer;"⟩ : MethodName)) hown (mvT hZ (hw _ (List.mem_of_getElem? (i := 3) rfl))) (mvT hZ (hw _ (List.mem_of_getElem? (i := 4) rfl))) (mvT hZ (hw _ (List.mem_of_getElem? (i := 5) rfl))) (mvT hZ (hw _ (List.mem_of_getElem? (i := 6) rfl))) (by decide) (backOf (W := 6) (rm1 l Z a0 hw [] wO wC wI cB G v20 p3 (4 : Int32) T110.heap n0 (Nat.le_trans Z0 K110'.1) O110 ) hZ (hw _ (List.mem_of_getElem? (i := 6) rfl)) (hw _ (List.mem_of_getElem? (i := 5) rfl)) (by decide) (by decide)) (g := (mkF m 127 #[.val (.long q0), .second, .val (.long q1), .second, .val (.long q2), .second, .val (.int p3), .val (.int v5), .val (.int v9), .val (.int v16), .val (.int v20), .val (.int v28), .val (.int v33), .val (.ref b101), .unset, .unset] [(.int (4 : Int32)), (.int p3), (.int v20), (own_stv (own_code p3 (16 : Int32)) wO wC), (own_stv (own_code p3 (14 : Int32)) wO wC), (own_stv (own_code p3 (12 : Int32)) wO wC), u_110, (.ref b109), (.ref b109)])) rfl (by rw [hml]; rfl) (argsL := [(.int v20), (.int p3), (.int (4 : Int32))]) (rest := [(own_stv (own_code p3 (16 : Int32)) wO wC), (own_stv (own_code p3 (14 : Int32)) wO wC), (own_stv (own_code p3 (12 : Int32)) wO wC), u_110, (.ref b109), (.ref b109)]) (lenOf pd_7 rfl) rfl (by show 2 * 0 + _ ≤ _; exact own_cW (own_cK (own_cK (own_cK (own_cK (own_cK (own_cK own_c0 rfl) rfl) (Jvm.Free.XT.cat1 hu_110)) (Jvm.Free.XT.cat1 (own_stv_ref (own_code p3 (12 : Int32)) wO wC))) (Jvm.Free.XT.cat1 (own_stv_ref (own_code p3 (14 : Int32)) wO wC))) (Jvm.Free.XT.cat1 (own_stv_ref (own_code p3 (16 : Int32)) wO wC)))) (hb hby at_127) (fun _ _ => ⟨rfl, e113, (by decide : 6 + 1 ≤ 32), (by decide : 16 + 1 ≤ 128)⟩)
  dsimp only [Pt.U, Pt.locs, Pt.cells, Pt.slots] at X114 l114 y114 z114 st114 hQ114
  rw [l114, y114, z114] at X114
  obtain ⟨u_114, rfl, N114q, K114, hu_114, NI_114⟩ := hQ114
  have N114 := Fr.app N113 N114q
  have O114 := O110.keep K114 all0
  have K114' : Keep h0 T114.heap ([] : List Addr) := K110'.trans K114 all0
  refine own_go (B := T114.setTop (mkF m 130 #[.val (.long q0), .second, .val (.long q1), .second, .val (.long q2), .second, .val (.int p3), .val (.int v5), .val (.int v9), .val (.int v16), .val (.int v20), .val (.int v28), .val (.int v33), .val (.ref b101), .unset, .unset] [u_114, (own_stv (own_code p3 (16 : Int32)) wO wC), (own_stv (own_code p3 (14 : Int32)) wO wC), (own_stv (own_code p3 (12 : Int32)) wO wC), u_110, (.ref b109), (.ref b109)])) (st114) ?_
  refine own_go (B := T114.setTop (mkF m 132 #[.val (.long q0), .second, .val (.long q1), .second, .val (.long q2), .second, .val (.int p3), .val (.int v5), .val (.int v9), .val (.int v16), .val (.int v20), .val (.int v28), .val (.int v33), .val (.ref b101), .unset, .unset] [(.int v33), u_114, (own_stv (own_code p3 (16 : Int32)) wO wC), (own_stv (own_code p3 (14 : Int32)) wO wC), (own_stv (own_code p3 (12 : Int32)) wO wC), u_110, (.ref b109), (.ref b109)])) (fun _ k => XS.iload X114.here hx rfl (hb hby at_130) rfl k) ?_
  refine own_go (B := T114.setTop (mkF m 134 #[.val (.long q0), .second, .val (.long q1), .second, .val (.long q2), .second, .val (.int p3), .val (.int v5), .val (.int v9), .val (.int v16), .val (.int v20), .val (.int v28), .val (.int v33), .val (.ref b101), .unset, .unset] [(.int p3), (.int v33), u_114, (own_stv (own_code p3 (16 : Int32)) wO wC), (own_stv (own_code p3 (14 : Int32)) wO wC), (own_stv (own_code p3 (12 : Int32)) wO wC), u_110, (.ref b109), (.ref b109)])) (fun _ k => XS.iload X114.here hx rfl (hb hby at_132) rfl k) ?_
  refine own_go (B := T114.setTop (mkF m 135 #[.val (.long q0), .second, .val (.long q1), .second, .val (.long q2), .second, .val (.int p3), .val (.int v5), .val (.int v9), .val (.int v16), .val (.int v20), .val (.int v28), .val (.int v33), .val (.ref b101), .unset, .unset] [(.int (5 : Int32)), (.int p3), (.int v33), u_114, (own_stv (own_code p3 (16 : Int32)) wO wC), (own_stv (own_code p3 (14 : Int32)) wO wC), (own_stv (own_code p3 (12 : Int32)) wO wC), u_110, (.ref b109), (.ref b109)])) (fun _ k => XS.iconst X114.here hx rfl (hb hby at_134) k) ?_
  obtain ⟨_, _, ⟨T115, L115, k115, n115⟩, -, X115, ⟨Lc115, hQ115, l115, y115, z115⟩, st115⟩ := Jvm.LawKit.callS X114 hx (y := (⟨"com/example/roomwire/roomwire/core/NightStateOverlayPinLaw", "num", "(III)Ljava/lang/Integer;"⟩ : MethodName)) hown (mvT hZ (hw _ (List.mem_of_getElem? (i := 3) rfl))) (mvT hZ (hw _ (List.mem_of_getElem? (i := 4) rfl))) (mvT hZ (hw _ (List.mem_of_getElem? (i := 5) rfl))) (mvT hZ (hw _ (List.mem_of_getElem? (i := 6) rfl))) (by decide) (backOf (W := 7) (rm1 l Z a0 hw [] wO wC wI cB G v33 p3 (5 : Int32) T114.heap n0 (Nat.le_trans Z0 K114'.1) O114 ) hZ (hw _ (List.mem_of_getElem? (i := 6) rfl)) (hw _ (List.mem_of_getElem? (i := 5) rfl)) (by decide) (by decide)) (g := (mkF m 135 #[.val (.long q0), .second, .val (.long q1), .second, .val (.long q2), .second, .val (.int p3), .val (.int v5), .val (.int v9), .val (.int v16), .val (.int v20), .val (.int v28), .val (.int v33), .val (.ref b101), .unset, .unset] [(.int (5 : Int32)), (.int p3), (.int v33), u_114, (own_stv (own_code p3 (16 : Int32)) wO wC), (own_stv (own_code p3 (14 : Int32)) wO wC), (own_stv (own_code p3 (12 : Int32)) wO wC), u_110, (.ref b109), (.ref b109)])) rfl (by rw [hml]; rfl) (argsL := [(.int v33), (.int p3), (.int (5 : Int32))]) (rest := [u_114, (own_stv (own_code p3 (16 : Int32)) wO wC), (own_stv (own_code p3 (14 : Int32)) wO wC), (own_stv (own_code p3 (12 : Int32)) wO wC), u_110, (.ref b109), (.ref b109)]) (lenOf pd_7 rfl) rfl (by show 2 * 0 + _ ≤ _; exact own_cW (own_cK (own_cK (own_cK (own_cK (own_cK (own_cK (own_cK own_c0 rfl) rfl) (Jvm.Free.XT.cat1 hu_110)) (Jvm.Free.XT.cat1 (own_stv_ref (own_code p3 (12 : Int32)) wO wC))) (Jvm.Free.XT.cat1 (own_stv_ref (own_code p3 (14 : Int32)) wO wC))) (Jvm.Free.XT.cat1 (own_stv_ref (own_code p3 (16 : Int32)) wO wC))) (Jvm.Free.XT.cat1 hu_114))) (hb hby at_135) (fun _ _ => ⟨rfl, rfl, (by decide : 7 + 1 ≤ 32), (by decide : 17 + 1 ≤ 128)⟩)
  dsimp only [Pt.U, Pt.locs, Pt.cells, Pt.slots] at X115 l115 y115 z115 st115 hQ115
  rw [l115, y115, z115] at X115
  obtain ⟨u_115, rfl, N115q, K115, hu_115, NI_115⟩ := hQ115
  have N115 := Fr.app N114 N115q
  have O115 := O114.keep K115 all0
  have K115' : Keep h0 T115.heap ([] : List Addr) := K114'.trans K115 all0
  refine own_go (B := T115.setTop (mkF m 138 #[.val (.long q0), .second, .val (.long q1), .second, .val (.long q2), .second, .val (.int p3), .val (.int v5), .val (.int v9), .val (.int v16), .val (.int v20), .val (.int v28), .val (.int v33), .val (.ref b101), .unset, .unset] [u_115, u_114, (own_stv (own_code p3 (16 : Int32)) wO wC), (own_stv (own_code p3 (14 : Int32)) wO wC), (own_stv (own_code p3 (12 : Int32)) wO wC), u_110, (.ref b109), (.ref b109)])) (st115) ?_
  obtain ⟨_, _, ⟨T116, L116, k116, n116⟩, -, X116, ⟨Lc116, hQ116, l116, y116, z116⟩, st116⟩ := X115.specialBack hx (y := (⟨"com/example/roomwire/roomwire/core/NightState", "<init>", "(Ljava/lang/Integer;Lcom/example/roomwire/roomwire/core/Status;Lcom/example/roomwire/roomwire/core/Status;Lcom/example/roomwire/roomwire/core/Status;Ljava/lang/Integer;Ljava/lang/Integer;)V"⟩ : MethodName)) rfl hown (mvT hZ (hw _ (List.mem_of_getElem? (i := 37) rfl))) (mvT hZ (hw _ (List.mem_of_getElem? (i := 38) rfl))) (mvT hZ (hw _ (List.mem_of_getElem? (i := 39) rfl))) (by decide) (backOf (W := 1) (rm8 l Z a0 hw [] wO wC wI cB G b109 u_110 (own_stv (own_code p3 (12 : Int32)) wO wC) (own_stv (own_code p3 (14 : Int32)) wO wC) (own_stv (own_code p3 (16 : Int32)) wO wC) u_114 u_115 T115.heap n0 (Nat.le_trans Z0 K115'.1) O115 hu_110 (own_stv_ref (own_code p3 (12 : Int32)) wO wC) (own_stv_ref (own_code p3 (14 : Int32)) wO wC) (own_stv_ref (own_code p3 (16 : Int32)) wO wC) hu_114 hu_115 (((A109.keep K110).keep K114).keep K115) g_b109 (((F_bookingLimit_b109.keep K110 nin0).keep K114 nin0).keep K115 nin0) (((F_master_b109.keep K110 nin0).keep K114 nin0).keep K115 nin0) (((F_arrival_b109.keep K110 nin0).keep K114 nin0).keep K115 nin0) (((F_departure_b109.keep K110 nin0).keep K114 nin0).keep K115 nin0) (((F_minStay_b109.keep K110 nin0).keep K114 nin0).keep K115 nin0) (((F_maxStay_b109.keep K110 nin0).keep K114 nin0).keep K115 nin0)) hZ (hw _ (List.mem_of_getElem? (i := 39) rfl)) (hw _ (List.mem_of_getElem? (i := 2) rfl)) (by decide) (by decide)) (g := (mkF m 138 #[.val (.long q0), .second, .val (.long q1), .second, .val (.long q2), .second, .val (.int p3), .val (.int v5), .val (.int v9), .val (.int v16), .val (.int v20), .val (.int v28), .val (.int v33), .val (.ref b101), .unset, .unset] [u_115, u_114, (own_stv (own_code p3 (16 : Int32)) wO wC), (own_stv (own_code p3 (14 : Int32)) wO wC), (own_stv (own_code p3 (12 : Int32)) wO wC), u_110, (.ref b109), (.ref b109)])) rfl (by rw [hml]; rfl) (Steps.refl _) (a := b109) (argsL := [u_110, (own_stv (own_code p3 (12 : Int32)) wO wC), (own_stv (own_code p3 (14 : Int32)) wO wC), (own_stv (own_code p3 (16 : Int32)) wO wC), u_114, u_115]) (rest := [(.ref b109)]) (lenOf pd_5 rfl) rfl (by show 2 * 0 + _ ≤ _; exact Nat.le_of_eq rfl) (hb hby at_138) (fun _ _ => ⟨rfl, rfl, (by decide : 8 + 0 ≤ 32), (by decide : 18 + 0 ≤ 128)⟩)
  dsimp only [Pt.U, Pt.locs, Pt.cells, Pt.slots] at X116 l116 y116 z116 st116 hQ116
  rw [l116, y116, z116] at X116
  obtain ⟨rfl, N116q, K116, P0_116, P1_116, P2_116, P3_116, P4_116, P5_116⟩ := hQ116
  have N116 := Fr.app N115 N116q
  have O116 := O115.keep K116 (allS g_b109 all0)
  have K116' : Keep h0 T116.heap ([] : List Addr) := K115'.trans K116 (allS (Or.inr sz_b109) all0)
  refine own_go (B := T116.setTop (mkF m 141 #[.val (.long q0), .second, .val (.long q1), .second, .val (.long q2), .second, .val (.int p3), .val (.int v5), .val (.int v9), .val (.int v16), .val (.int v20), .val (.int v28), .val (.int v33), .val (.ref b101), .unset, .unset] [(.ref b109)])) (fun _ k => st116.trans k) ?_
  refine own_go (B := T116.setTop (mkF m 143 #[.val (.long q0), .second, .val (.long q1), .second, .val (.long q2), .second, .val (.int p3), .val (.int v5), .val (.int v9), .val (.int v16), .val (.int v20), .val (.int v28), .val (.int v33), .val (.ref b101), .val (.ref b109), .unset] [])) (fun _ k => XS.astore X116.here hx rfl (hb hby at_141) rfl rfl (l' := #[.val (.long q0), .second, .val (.long q1), .second, .val (.long q2), .second, .val (.int p3), .val (.int v5), .val (.int v9), .val (.int v16), .val (.int v20), .val (.int v28), .val (.int v33), .val (.ref b101), .val (.ref b109), .unset]) rfl k) ?_
  refine own_go (B := T116.setTop (mkF m 145 #[.val (.long q0), .second, .val (.long q1), .second, .val (.long q2), .second, .val (.int p3), .val (.int v5), .val (.int v9), .val (.int v16), .val (.int v20), .val (.int v28), .val (.int v33), .val (.ref b101), .val (.ref b109), .unset] [(.ref b101)])) (fun _ k => XS.aload X116.here hx rfl (hb hby at_143) rfl rfl k) ?_
  refine own_go (B := T116.setTop (mkF m 147 #[.val (.long q0), .second, .val (.long q1), .second, .val (.long q2), .second, .val (.int p3), .val (.int v5), .val (.int v9), .val (.int v16), .val (.int v20), .val (.int v28), .val (.int v33), .val (.ref b101), .val (.ref b109), .unset] [(.ref b109), (.ref b101)])) (fun _ k => XS.aload X116.here hx rfl (hb hby at_145) rfl rfl k) ?_
  obtain ⟨cq117, kq117, q117a, q117b, q117c⟩ := isOf hZ rfl (((((((((A101.keep K102).keep K106).keep K107).keep K108).ext E109).keep K110).keep K114).keep K115).keep K116)
  obtain ⟨_, _, ⟨T117, L117, k117, n117⟩, -, X117, ⟨Lc117, hQ117, l117, y117, z117⟩, st117⟩ := X116.virtualBack hx (y := (⟨"com/example/roomwire/roomwire/core/NightState", "overlay", "(Lcom/example/roomwire/roomwire/core/NightState;)Lcom/example/roomwire/roomwire/core/NightState;"⟩ : MethodName)) (z := (⟨"com/example/roomwire/roomwire/core/NightState", "overlay", "(Lcom/example/roomwire/roomwire/core/NightState;)Lcom/example/roomwire/roomwire/core/NightState;"⟩ : MethodName)) hown (mvT hZ (hw _ (List.mem_of_getElem? (i := 58) rfl))) (mvT hZ (hw _ (List.mem_of_getElem? (i := 59) rfl))) (notFace_of_selects (args := #[]) (mvT hZ (hw _ (List.mem_of_getElem? (i := 61) rfl)))) (mvT hZ (hw _ (List.mem_of_getElem? (i := 61) rfl))) (mvT hZ (hw _ (List.mem_of_getElem? (i := 60) rfl))) (by decide) (backOf (W := 0) (rm10 l Z a0 hw [] wO wC wI cB G b101 b109 u_102 (own_stv (own_code p3 (6 : Int32)) wO wC) (own_stv (own_code p3 (8 : Int32)) wO wC) (own_stv (own_code p3 (10 : Int32)) wO wC) u_106 u_107 u_110 (own_stv (own_code p3 (12 : Int32)) wO wC) (own_stv (own_code p3 (14 : Int32)) wO wC) (own_stv (own_code p3 (16 : Int32)) wO wC) u_114 u_115 T116.heap n0 (Nat.le_trans Z0 K116'.1) O116 hu_102 (own_stv_ref _ _ _) (own_stv_ref _ _ _) (own_stv_ref _ _ _) hu_106 hu_107 hu_110 (own_stv_ref _ _ _) (own_stv_ref _ _ _) (own_stv_ref _ _ _) hu_114 hu_115 (((((P0_108.ext E109).keep K110 nin0).keep K114 nin0).keep K115 nin0).keep K116 (ninS ne109_1 nin0)) (((((P1_108.ext E109).keep K110 nin0).keep K114 nin0).keep K115 nin0).keep K116 (ninS ne109_1 nin0)) (((((P2_108.ext E109).keep K110 nin0).keep K114 nin0).keep K115 nin0).keep K116 (ninS ne109_1 nin0)) (((((P3_108.ext E109).keep K110 nin0).keep K114 nin0).keep K115 nin0).keep K116 (ninS ne109_1 nin0)) (((((P4_108.ext E109).keep K110 nin0).keep K114 nin0).keep K115 nin0).keep K116 (ninS ne109_1 nin0)) (((((P5_108.ext E109).keep K110 nin0).keep K114 nin0).keep K115 nin0).keep K116 (ninS ne109_1 nin0)) P0_116 P1_116 P2_116 P3_116 P4_116 P5_116 (own_ok_ni (own_ni_keep K116 (allS (((A109.keep K110).keep K114).keep K115) all0) (own_ni_keep K115 all0 (own_ni_keep K114 all0 (own_ni_keep K110 all0 (own_ni_ext E109 (own_ni_keep K108 (allS (((A101.keep K102).keep K106).keep K107) all0) (own_ni_keep K107 all0 (own_ni_keep K106 all0 NI_102))))))))) (own_stv_ok (E_wO.ext O116.2) (E_wC.ext O116.2)) (own_stv_ok (E_wO.ext O116.2) (E_wC.ext O116.2)) (own_stv_ok (E_wO.ext O116.2) (E_wC.ext O116.2)) (own_ok_ni (own_ni_keep K116 (allS (((A109.keep K110).keep K114).keep K115) all0) (own_ni_keep K115 all0 (own_ni_keep K114 all0 (own_ni_keep K110 all0 (own_ni_ext E109 (own_ni_keep K108 (allS (((A101.keep K102).keep K106).keep K107) all0) (own_ni_keep K107 all0 NI_106)))))))) (own_ok_ni (own_ni_keep K116 (allS (((A109.keep K110).keep K114).keep K115) all0) (own_ni_keep K115 all0 (own_ni_keep K114 all0 (own_ni_keep K110 all0 (own_ni_ext E109 (own_ni_keep K108 (allS (((A101.keep K102).keep K106).keep K107) all0) NI_107))))))) (own_ok_ni (own_ni_keep K116 (allS (((A109.keep K110).keep K114).keep K115) all0) (own_ni_keep K115 all0 (own_ni_keep K114 all0 NI_110)))) (own_stv_ok (E_wO.ext O116.2) (E_wC.ext O116.2)) (own_stv_ok (E_wO.ext O116.2) (E_wC.ext O116.2)) (own_stv_ok (E_wO.ext O116.2) (E_wC.ext O116.2)) (own_ok_ni (own_ni_keep K116 (allS (((A109.keep K110).keep K114).keep K115) all0) (own_ni_keep K115 all0 NI_114))) (own_ok_ni (own_ni_keep K116 (allS (((A109.keep K110).keep K114).keep K115) all0) NI_115))) hZ (hw _ (List.mem_of_getElem? (i := 62) rfl)) (hw _ (List.mem_of_getElem? (i := 2) rfl)) (by decide) (by decide)) q117a q117c (g := (mkF m 147 #[.val (.long q0), .second, .val (.long q1), .second, .val (.long q2), .second, .val (.int p3), .val (.int v5), .val (.int v9), .val (.int v16), .val (.int v20), .val (.int v28), .val (.int v33), .val (.ref b101), .val (.ref b109), .unset] [(.ref b109), (.ref b101)])) rfl (by rw [hml]; rfl) (Steps.refl _) (argsL := [(.ref b109)]) (rest := []) (lenOf pd_9 rfl) rfl (by show 2 * 0 + _ ≤ _; exact Nat.le_of_eq rfl) (hb hby at_147) (fun _ _ => ⟨rfl, rfl, (by decide : 8 + 1 ≤ 32), (by decide : 18 + 6 ≤ 128)⟩)
  dsimp only [Pt.U, Pt.locs, Pt.cells, Pt.slots] at X117 l117 y117 z117 st117 hQ117
  rw [l117, y117, z117] at X117
  obtain ⟨b_117, rfl, N117q, K117, fr_117, E_117, P0_117, P1_117, P2_117, P3_117, P4_117, P5_117⟩ := hQ117
  have ne117_1_fr_117 : b101 ≠ b_117 := Nat.ne_of_lt (Nat.lt_of_lt_of_le (((((((((A101.keep K102).keep K106).keep K107).keep K108).ext E109).keep K110).keep K114).keep K115).keep K116).lt fr_117)
  have ne117_2_fr_117 : b109 ≠ b_117 := Nat.ne_of_lt (Nat.lt_of_lt_of_le ((((A109.keep K110).keep K114).keep K115).keep K116).lt fr_117)
  have g_b_117 : n0 ≤ b_117 := Nat.le_trans (Nat.le_trans Z0 K116'.1) fr_117
  have sz_b_117 : h0.size ≤ b_117 := Nat.le_trans K116'.1 fr_117
  have N117 := Fr.app N116 N117q
  have O117 := O116.keep K117 all0
  have K117' : Keep h0 T117.heap ([] : List Addr) := K116'.trans K117 all0
  refine own_go (B := T117.setTop (mkF m 150 #[.val (.long q0), .second, .val (.long q1), .second, .val (.long q2), .second, .val (.int p3), .val (.int v5), .val (.int v9), .val (.int v16), .val (.int v20), .val (.int v28), .val (.int v33), .val (.ref b101), .val (.ref b109), .unset] [(.ref b_117)])) (fun _ k => st117.trans k) ?_
  refine own_go (B := T117.setTop (mkF m 152 #[.val (.long q0), .second, .val (.long q1), .second, .val (.long q2), .second, .val (.int p3), .val (.int v5), .val (.int v9), .val (.int v16), .val (.int v20), .val (.int v28), .val (.int v33), .val (.ref b101), .val (.ref b109), .val (.ref b_117)] [])) (fun _ k => XS.astore X117.here hx rfl (hb hby at_150) rfl rfl (l' := #[.val (.long q0), .second, .val (.long q1), .second, .val (.long q2), .second, .val (.int p3), .val (.int v5), .val (.int v9), .val (.int v16), .val (.int v20), .val (.int v28), .val (.int v33), .val (.ref b101), .val (.ref b109), .val (.ref b_117)]) rfl k) ?_
  refine own_go (B := T117.setTop (mkF m 154 #[.val (.long q0), .second, .val (.long q1), .second, .val (.long q2), .second, .val (.int p3), .val (.int v5), .val (.int v9), .val (.int v16), .val (.int v20), .val (.int v28), .val (.int v33), .val (.ref b101), .val (.ref b109), .val (.ref b_117)] [(.ref b_117)])) (fun _ k => XS.aload X117.here hx rfl (hb hby at_152) rfl rfl k) ?_
  obtain ⟨cq118, kq118, q118a, q118b, q118c⟩ := isOf hZ rfl E_117
  obtain ⟨_, _, ⟨T118, L118, k118, n118⟩, -, X118, ⟨Lc118, hQ118, l118, y118, z118⟩, st118⟩ := X117.virtualBack hx (y := (⟨"com/example/roomwire/roomwire/core/NightState", "bookingLimit", "()Ljava/lang/Integer;"⟩ : MethodName)) (z := (⟨"com/example/roomwire/roomwire/core/NightState", "bookingLimit", "()Ljava/lang/Integer;"⟩ : MethodName)) hown (mvT hZ (hw _ (List.mem_of_getElem? (i := 69) rfl))) (mvT hZ (hw _ (List.mem_of_getElem? (i := 70) rfl))) (notFace_of_selects (args := #[]) (mvT hZ (hw _ (List.mem_of_getElem? (i := 72) rfl)))) (mvT hZ (hw _ (List.mem_of_getElem? (i := 72) rfl))) (mvT hZ (hw _ (List.mem_of_getElem? (i := 71) rfl))) (by decide) (backOf (W := 0) (rm12 l Z a0 hw [] wO wC wI cB G b_117 (own_pk u_110 u_102) T117.heap n0 (Nat.le_trans Z0 K117'.1) O117 P0_117 (own_pk_ref hu_110 hu_102)) hZ (hw _ (List.mem_of_getElem? (i := 73) rfl)) (hw _ (List.mem_of_getElem? (i := 2) rfl)) (by decide) (by decide)) q118a q118c (g := (mkF m 154 #[.val (.long q0), .second, .val (.long q1), .second, .val (.long q2), .second, .val (.int p3), .val (.int v5), .val (.int v9), .val (.int v16), .val (.int v20), .val (.int v28), .val (.int v33), .val (.ref b101), .val (.ref b109), .val (.ref b_117)] [(.ref b_117)])) rfl (by rw [hml]; rfl) (Steps.refl _) (argsL := []) (rest := []) (lenOf pd_10 rfl) rfl (by show 2 * 0 + _ ≤ _; exact Nat.le_of_eq rfl) (hb hby at_154) (fun _ _ => ⟨rfl, rfl, (by decide : 9 + 0 ≤ 32), (by decide : 24 + 0 ≤ 128)⟩)
  dsimp only [Pt.U, Pt.locs, Pt.cells, Pt.slots] at X118 l118 y118 z118 st118 hQ118
  rw [l118, y118, z118] at X118
  obtain ⟨rfl, N118q, K118⟩ := hQ118
  have N118 := Fr.app N117 N118q
  have e118 : T118.heap = T117.heap := K118
  refine own_go (B := T118.setTop (mkF m 157 #[.val (.long q0), .second, .val (.long q1), .second, .val (.long q2), .second, .val (.int p3), .val (.int v5), .val (.int v9), .val (.int v16), .val (.int v20), .val (.int v28), .val (.int v33), .val (.ref b101), .val (.ref b109), .val (.ref b_117)] [(own_pk u_110 u_102)])) (fun _ k => st118.trans k) ?_
  refine own_go (B := T118.setTop (mkF m 159 #[.val (.long q0), .second, .val (.long q1), .second, .val (.long q2), .second, .val (.int p3), .val (.int v5), .val (.int v9), .val (.int v16), .val (.int v20), .val (.int v28), .val (.int v33), .val (.ref b101), .val (.ref b109), .val (.ref b_117)] [(.int p3), (own_pk u_110 u_102)])) (fun _ k => XS.iload X118.here hx rfl (hb hby at_157) rfl k) ?_
  refine own_go (B := T118.setTop (mkF m 160 #[.val (.long q0), .second, .val (.long q1), .second, .val (.long q2), .second, .val (.int p3), .val (.int v5), .val (.int v9), .val (.int v16), .val (.int v20), .val (.int v28), .val (.int v33), .val (.ref b101), .val (.ref b109), .val (.ref b_117)] [(.int (3 : Int32)), (.int p3), (own_pk u_110 u_102)])) (fun _ k => XS.iconst X118.here hx rfl (hb hby at_159) k) ?_
  refine own_go (B := T118.setTop (mkF m 162 #[.val (.long q0), .second, .val (.long q1), .second, .val (.long q2), .second, .val (.int p3), .val (.int v5), .val (.int v9), .val (.int v16), .val (.int v20), .val (.int v28), .val (.int v33), .val (.ref b101), .val (.ref b109), .val (.ref b_117)] [(.int v9), (.int (3 : Int32)), (.int p3), (own_pk u_110 u_102)])) (fun _ k => XS.iload X118.here hx rfl (hb hby at_160) rfl k) ?_
  refine own_go (B := T118.setTop (mkF m 163 #[.val (.long q0), .second, .val (.long q1), .second, .val (.long q2), .second, .val (.int p3), .val (.int v5), .val (.int v9), .val (.int v16), .val (.int v20), .val (.int v28), .val (.int v33), .val (.ref b101), .val (.ref b109), .val (.ref b_117)] [(.int (0 : Int32)), (.int v9), (.int (3 : Int32)), (.int p3), (own_pk u_110 u_102)])) (fun _ k => XS.iconst X118.here hx rfl (hb hby at_162) k) ?_
  refine own_go (B := T118.setTop (mkF m 165 #[.val (.long q0), .second, .val (.long q1), .second, .val (.long q2), .second, .val (.int p3), .val (.int v5), .val (.int v9), .val (.int v16), .val (.int v20), .val (.int v28), .val (.int v33), .val (.ref b101), .val (.ref b109), .val (.ref b_117)] [(.int v5), (.int (0 : Int32)), (.int v9), (.int (3 : Int32)), (.int p3), (own_pk u_110 u_102)])) (fun _ k => XS.iload X118.here hx rfl (hb hby at_163) rfl k) ?_
  obtain ⟨_, _, ⟨T119, L119, k119, n119⟩, -, X119, ⟨Lc119, hQ119, l119, y119, z119⟩, st119⟩ := Jvm.LawKit.callS X118 hx (y := (⟨"com/example/roomwire/roomwire/core/NightStateOverlayPinLaw", "intIs", "(Ljava/lang/Integer;IIIII)Z"⟩ : MethodName)) hown (mvT hZ (hw _ (List.mem_of_getElem? (i := 74) rfl))) (mvT hZ (hw _ (List.mem_of_getElem? (i := 75) rfl))) (mvT hZ (hw _ (List.mem_of_getElem? (i := 5) rfl))) (mvT hZ (hw _ (List.mem_of_getElem? (i := 76) rfl))) (by decide) (backOf (W := 0) (rm13 l Z a0 hw [] wO wC wI cB G (own_pk u_110 u_102) p3 (3 : Int32) v9 (0 : Int32) v5 T117.heap n0 (Nat.le_trans Z0 K117'.1) O117 (own_pk_ref hu_110 hu_102) (own_ni_pk (own_ni_keep K117 all0 (own_ni_keep K116 (allS (((A109.keep K110).keep K114).keep K115) all0) (own_ni_keep K115 all0 (own_ni_keep K114 all0 NI_110)))) (own_ni_keep K117 all0 (own_ni_keep K116 (allS (((A109.keep K110).keep K114).keep K115) all0) (own_ni_keep K115 all0 (own_ni_keep K114 all0 (own_ni_keep K110 all0 (own_ni_ext E109 (own_ni_keep K108 (allS (((A101.keep K102).keep K106).keep K107) all0) (own_ni_keep K107 all0 (own_ni_keep K106 all0 NI_102))))))))))) hZ (hw _ (List.mem_of_getElem? (i := 76) rfl)) (hw _ (List.mem_of_getElem? (i := 5) rfl)) (by decide) (by decide)) (g := (mkF m 165 #[.val (.long q0), .second, .val (.long q1), .second, .val (.long q2), .second, .val (.int p3), .val (.int v5), .val (.int v9), .val (.int v16), .val (.int v20), .val (.int v28), .val (.int v33), .val (.ref b101), .val (.ref b109), .val (.ref b_117)] [(.int v5), (.int (0 : Int32)), (.int v9), (.int (3 : Int32)), (.int p3), (own_pk u_110 u_102)])) rfl (by rw [hml]; rfl) (argsL := [(own_pk u_110 u_102), (.int p3), (.int (3 : Int32)), (.int v9), (.int (0 : Int32)), (.int v5)]) (rest := []) (lenOf pd_11 rfl) rfl (by show 2 * 0 + _ ≤ _; exact Nat.le_of_eq rfl) (hb hby at_165) (fun _ _ => ⟨rfl, e118, (by decide : 9 + 0 ≤ 32), (by decide : 24 + 0 ≤ 128)⟩)
  dsimp only [Pt.U, Pt.locs, Pt.cells, Pt.slots] at X119 l119 y119 z119 st119 hQ119
  rw [l119, y119, z119] at X119
  obtain ⟨rfl, N119q, K119⟩ := hQ119
  have N119 := Fr.app N118 N119q
  have e119 : T119.heap = T117.heap := K119
  refine own_go (B := T119.setTop (mkF m 168 #[.val (.long q0), .second, .val (.long q1), .second, .val (.long q2), .second, .val (.int p3), .val (.int v5), .val (.int v9), .val (.int v16), .val (.int v20), .val (.int v28), .val (.int v33), .val (.ref b101), .val (.ref b109), .val (.ref b_117)] [(.int (1 : Int32))])) (st119) ?_
  refine own_go (B := T119.setTop (mkF m 171 #[.val (.long q0), .second, .val (.long q1), .second, .val (.long q2), .second, .val (.int p3), .val (.int v5), .val (.int v9), .val (.int v16), .val (.int v20), .val (.int v28), .val (.int v33), .val (.ref b101), .val (.ref b109), .val (.ref b_117)] [])) (fun _ k => XS.ifNo X119.here hx rfl (hb hby at_168) rfl ((if0 _ _).trans (feq (by decide : ¬ ((1 : Int32) = (0 : Int32)))).1) k) ?_
  refine own_go (B := T119.setTop (mkF m 173 #[.val (.long q0), .second, .val (.long q1), .second, .val (.long q2), .second, .val (.int p3), .val (.int v5), .val (.int v9), .val (.int v16), .val (.int v20), .val (.int v28), .val (.int v33), .val (.ref b101), .val (.ref b109), .val (.ref b_117)] [(.ref b_117)])) (fun _ k => XS.aload X119.here hx rfl (hb hby at_171) rfl rfl k) ?_
  obtain ⟨cq120, kq120, q120a, q120b, q120c⟩ := isOf hZ e119 E_117
  obtain ⟨_, _, ⟨T120, L120, k120, n120⟩, -, X120, ⟨Lc120, hQ120, l120, y120, z120⟩, st120⟩ := X119.virtualBack hx (y := (⟨"com/example/roomwire/roomwire/core/NightState", "master", "()Lcom/example/roomwire/roomwire/core/Status;"⟩ : MethodName)) (z := (⟨"com/example/roomwire/roomwire/core/NightState", "master", "()Lcom/example/roomwire/roomwire/core/Status;"⟩ : MethodName)) hown (mvT hZ (hw _ (List.mem_of_getElem? (i := 82) rfl))) (mvT hZ (hw _ (List.mem_of_getElem? (i := 83) rfl))) (notFace_of_selects (args := #[]) (mvT hZ (hw _ (List.mem_of_getElem? (i := 85) rfl)))) (mvT hZ (hw _ (List.mem_of_getElem? (i := 85) rfl))) (mvT hZ (hw _ (List.mem_of_getElem? (i := 84) rfl))) (by decide) (backOf (W := 0) (rm15 l Z a0 hw [] wO wC wI cB G b_117 (own_pk (own_stv (own_code p3 (12 : Int32)) wO wC) (own_stv (own_code p3 (6 : Int32)) wO wC)) T117.heap n0 (Nat.le_trans Z0 K117'.1) O117 P1_117 (own_pk_ref (own_stv_ref _ _ _) (own_stv_ref _ _ _))) hZ (hw _ (List.mem_of_getElem? (i := 86) rfl)) (hw _ (List.mem_of_getElem? (i := 2) rfl)) (by decide) (by decide)) q120a q120c (g := (mkF m 173 #[.val (.long q0), .second, .val (.long q1), .second, .val (.long q2), .second, .val (.int p3), .val (.int v5), .val (.int v9), .val (.int v16), .val (.int v20), .val (.int v28), .val (.int v33), .val (.ref b101), .val (.ref b109), .val (.ref b_117)] [(.ref b_117)])) rfl (by rw [hml]; rfl) (Steps.refl _) (argsL := []) (rest := []) (lenOf pd_12 rfl) rfl (by show 2 * 0 + _ ≤ _; exact Nat.le_of_eq rfl) (hb hby at_173) (fun _ _ => ⟨rfl, e119, (by decide : 9 + 0 ≤ 32), (by decide : 24 + 0 ≤ 128)⟩)
  dsimp only [Pt.U, Pt.locs, Pt.cells, Pt.slots] at X120 l120 y120 z120 st120 hQ120
  rw [l120, y120, z120] at X120
  obtain ⟨rfl, N120q, K120⟩ := hQ120
  have N120 := Fr.app N119 N120q
  have e120 : T120.heap = T117.heap := K120
  refine own_go (B := T120.setTop (mkF m 176 #[.val (.long q0), .second, .val (.long q1), .second, .val (.long q2), .second, .val (.int p3), .val (.int v5), .val (.int v9), .val (.int v16), .val (.int v20), .val (.int v28), .val (.int v33), .val (.ref b101), .val (.ref b109), .val (.ref b_117)] [(own_pk (own_stv (own_code p3 (12 : Int32)) wO wC) (own_stv (own_code p3 (6 : Int32)) wO wC))])) (fun _ k => st120.trans k) ?_
  refine own_go (B := T120.setTop (mkF m 178 #[.val (.long q0), .second, .val (.long q1), .second, .val (.long q2), .second, .val (.int p3), .val (.int v5), .val (.int v9), .val (.int v16), .val (.int v20), .val (.int v28), .val (.int v33), .val (.ref b101), .val (.ref b109), .val (.ref b_117)] [(.int p3), (own_pk (own_stv (own_code p3 (12 : Int32)) wO wC) (own_stv (own_code p3 (6 : Int32)) wO wC))])) (fun _ k => XS.iload X120.here hx rfl (hb hby at_176) rfl k) ?_
  refine own_go (B := T120.setTop (mkF m 180 #[.val (.long q0), .second, .val (.long q1), .second, .val (.long q2), .second, .val (.int p3), .val (.int v5), .val (.int v9), .val (.int v16), .val (.int v20), .val (.int v28), .val (.int v33), .val (.ref b101), .val (.ref b109), .val (.ref b_117)] [(.int (12 : Int32)), (.int p3), (own_pk (own_stv (own_code p3 (12 : Int32)) wO wC) (own_stv (own_code p3 (6 : Int32)) wO wC))])) (fun _ k => XS.bipush X120.here hx rfl (hb hby at_178) k) ?_
  refine own_go (B := T120.setTop (mkF m 182 #[.val (.long q0), .second, .val (.long q1), .second, .val (.long q2), .second, .val (.int p3), .val (.int v5), .val (.int v9), .val (.int v16), .val (.int v20), .val (.int v28), .val (.int v33), .val (.ref b101), .val (.ref b109), .val (.ref b_117)] [(.int (6 : Int32)), (.int (12 : Int32)), (.int p3), (own_pk (own_stv (own_code p3 (12 : Int32)) wO wC) (own_stv (own_code p3 (6 : Int32)) wO wC))])) (fun _ k => XS.bipush X120.here hx rfl (hb hby at_180) k) ?_
  obtain ⟨_, _, ⟨T121, L121, k121, n121⟩, -, X121, ⟨Lc121, hQ121, l121, y121, z121⟩, st121⟩ := Jvm.LawKit.callS X120 hx (y := (⟨"com/example/roomwire/roomwire/core/NightStateOverlayPinLaw", "statusIs", "(Lcom/example/roomwire/roomwire/core/Status;III)Z"⟩ : MethodName)) hown (mvT hZ (hw _ (List.mem_of_getElem? (i := 87) rfl))) (mvT hZ (hw _ (List.mem_of_getElem? (i := 88) rfl))) (mvT hZ (hw _ (List.mem_of_getElem? (i := 5) rfl))) (mvT hZ (hw _ (List.mem_of_getElem? (i := 89) rfl))) (by decide) (backOf (W := 0) (rm16 l Z a0 hw [] wO wC wI cB G (own_pk (own_stv (own_code p3 (12 : Int32)) wO wC) (own_stv (own_code p3 (6 : Int32)) wO wC)) p3 (12 : Int32) (6 : Int32) T117.heap n0 (Nat.le_trans Z0 K117'.1) O117 (own_pk_ref (own_stv_ref _ _ _) (own_stv_ref _ _ _)) rfl) hZ (hw _ (List.mem_of_getElem? (i := 89) rfl)) (hw _ (List.mem_of_getElem? (i := 5) rfl)) (by decide) (by decide)) (g := (mkF m 182 #[.val (.long q0), .second, .val (.long q1), .second, .val (.long q2), .second, .val (.int p3), .val (.int v5), .val (.int v9), .val (.int v16), .val (.int v20), .val (.int v28), .val (.int v33), .val (.ref b101), .val (.ref b109), .val (.ref b_117)] [(.int (6 : Int32)), (.int (12 : Int32)), (.int p3), (own_pk (own_stv (own_code p3 (12 : Int32)) wO wC) (own_stv (own_code p3 (6 : Int32)) wO wC))])) rfl (by rw [hml]; rfl) (argsL := [(own_pk (own_stv (own_code p3 (12 : Int32)) wO wC) (own_stv (own_code p3 (6 : Int32)) wO wC)), (.int p3), (.int (12 : Int32)), (.int (6 : Int32))]) (rest := []) (lenOf pd_13 rfl) rfl (by show 2 * 0 + _ ≤ _; exact Nat.le_of_eq rfl) (hb hby at_182) (fun _ _ => ⟨rfl, e120, (by decide : 9 + 0 ≤ 32), (by decide : 24 + 0 ≤ 128)⟩)
  dsimp only [Pt.U, Pt.locs, Pt.cells, Pt.slots] at X121 l121 y121 z121 st121 hQ121
  rw [l121, y121, z121] at X121
  obtain ⟨rfl, N121q, K121⟩ := hQ121
  have N121 := Fr.app N120 N121q
  have e121 : T121.heap = T117.heap := K121
  refine own_go (B := T121.setTop (mkF m 185 #[.val (.long q0), .second, .val (.long q1), .second, .val (.long q2), .second, .val (.int p3), .val (.int v5), .val (.int v9), .val (.int v16), .val (.int v20), .val (.int v28), .val (.int v33), .val (.ref b101), .val (.ref b109), .val (.ref b_117)] [(.int (1 : Int32))])) (st121) ?_
  refine own_go (B := T121.setTop (mkF m 188 #[.val (.long q0), .second, .val (.long q1), .second, .val (.long q2), .second, .val (.int p3), .val (.int v5), .val (.int v9), .val (.int v16), .val (.int v20), .val (.int v28), .val (.int v33), .val (.ref b101), .val (.ref b109), .val (.ref b_117)] [])) (fun _ k => XS.ifNo X121.here hx rfl (hb hby at_185) rfl ((if0 _ _).trans (feq (by decide : ¬ ((1 : Int32) = (0 : Int32)))).1) k) ?_
  refine own_go (B := T121.setTop (mkF m 190 #[.val (.long q0), .second, .val (.long q1), .second, .val (.long q2), .second, .val (.int p3), .val (.int v5), .val (.int v9), .val (.int v16), .val (.int v20), .val (.int v28), .val (.int v33), .val (.ref b101), .val (.ref b109), .val (.ref b_117)] [(.ref b_117)])) (fun _ k => XS.aload X121.here hx rfl (hb hby at_188) rfl rfl k) ?_
  obtain ⟨cq122, kq122, q122a, q122b, q122c⟩ := isOf hZ e121 E_117
  obtain ⟨_, _, ⟨T122, L122, k122, n122⟩, -, X122, ⟨Lc122, hQ122, l122, y122, z122⟩, st122⟩ := X121.virtualBack hx (y := (⟨"com/example/roomwire/roomwire/core/NightState", "arrival", "()Lcom/example/roomwire/roomwire/core/Status;"⟩ : MethodName)) (z := (⟨"com/example/roomwire/roomwire/core/NightState", "arrival", "()Lcom/example/roomwire/roomwire/core/Status;"⟩ : MethodName)) hown (mvT hZ (hw _ (List.mem_of_getElem? (i := 90) rfl))) (mvT hZ (hw _ (List.mem_of_getElem? (i := 91) rfl))) (notFace_of_selects (args := #[]) (mvT hZ (hw _ (List.mem_of_getElem? (i := 93) rfl)))) (mvT hZ (hw _ (List.mem_of_getElem? (i := 93) rfl))) (mvT hZ (hw _ (List.mem_of_getElem? (i := 92) rfl))) (by decide) (backOf (W := 0) (rm17 l Z a0 hw [] wO wC wI cB G b_117 (own_pk (own_stv (own_code p3 (14 : Int32)) wO wC) (own_stv (own_code p3 (8 : Int32)) wO wC)) T117.heap n0 (Nat.le_trans Z0 K117'.1) O117 P2_117 (own_pk_ref (own_stv_ref _ _ _) (own_stv_ref _ _ _))) hZ (hw _ (List.mem_of_getElem? (i := 94) rfl)) (hw _ (List.mem_of_getElem? (i := 2) rfl)) (by decide) (by decide)) q122a q122c (g := (mkF m 190 #[.val (.long q0), .second, .val (.long q1), .second, .val (.long q2), .second, .val (.int p3), .val (.int v5), .val (.int v9), .val (.int v16), .val (.int v20), .val (.int v28), .val (.int v33), .val (.ref b101), .val (.ref b109), .val (.ref b_117)] [(.ref b_117)])) rfl (by rw [hml]; rfl) (Steps.refl _) (argsL := []) (rest := []) (lenOf pd_12 rfl) rfl (by show 2 * 0 + _ ≤ _; exact Nat.le_of_eq rfl) (hb hby at_190) (fun _ _ => ⟨rfl, e121, (by decide : 9 + 0 ≤ 32), (by decide : 24 + 0 ≤ 128)⟩)
  dsimp only [Pt.U, Pt.locs, Pt.cells, Pt.slots] at X122 l122 y122 z122 st122 hQ122
  rw [l122, y122, z122] at X122
  obtain ⟨rfl, N122q, K122⟩ := hQ122
  have N122 := Fr.app N121 N122q
  have e122 : T122.heap = T117.heap := K122
  refine own_go (B := T122.setTop (mkF m 193 #[.val (.long q0), .second, .val (.long q1), .second, .val (.long q2), .second, .val (.int p3), .val (.int v5), .val (.int v9), .val (.int v16), .val (.int v20), .val (.int v28), .val (.int v33), .val (.ref b101), .val (.ref b109), .val (.ref b_117)] [(own_pk (own_stv (own_code p3 (14 : Int32)) wO wC) (own_stv (own_code p3 (8 : Int32)) wO wC))])) (fun _ k => st122.trans k) ?_
  refine own_go (B := T122.setTop (mkF m 195 #[.val (.long q0), .second, .val (.long q1), .second, .val (.long q2), .second, .val (.int p3), .val (.int v5), .val (.int v9), .val (.int v16), .val (.int v20), .val (.int v28), .val (.int v33), .val (.ref b101), .val (.ref b109), .val (.ref b_117)] [(.int p3), (own_pk (own_stv (own_code p3 (14 : Int32)) wO wC) (own_stv (own_code p3 (8 : Int32)) wO wC))])) (fun _ k => XS.iload X122.here hx rfl (hb hby at_193) rfl k) ?_
  refine own_go (B := T122.setTop (mkF m 197 #[.val (.long q0), .second, .val (.long q1), .second, .val (.long q2), .second, .val (.int p3), .val (.int v5), .val (.int v9), .val (.int v16), .val (.int v20), .val (.int v28), .val (.int v33), .val (.ref b101), .val (.ref b109), .val (.ref b_117)] [(.int (14 : Int32)), (.int p3), (own_pk (own_stv (own_code p3 (14 : Int32)) wO wC) (own_stv (own_code p3 (8 : Int32)) wO wC))])) (fun _ k => XS.bipush X122.here hx rfl (hb hby at_195) k) ?_
  refine own_go (B := T122.setTop (mkF m 199 #[.val (.long q0), .second, .val (.long q1), .second, .val (.long q2), .second, .val (.int p3), .val (.int v5), .val (.int v9), .val (.int v16), .val (.int v20), .val (.int v28), .val (.int v33), .val (.ref b101), .val (.ref b109), .val (.ref b_117)] [(.int (8 : Int32)), (.int (14 : Int32)), (.int p3), (own_pk (own_stv (own_code p3 (14 : Int32)) wO wC) (own_stv (own_code p3 (8 : Int32)) wO wC))])) (fun _ k => XS.bipush X122.here hx rfl (hb hby at_197) k) ?_
  obtain ⟨_, _, ⟨T123, L123, k123, n123⟩, -, X123, ⟨Lc123, hQ123, l123, y123, z123⟩, st123⟩ := Jvm.LawKit.callS X122 hx (y := (⟨"com/example/roomwire/roomwire/core/NightStateOverlayPinLaw", "statusIs", "(Lcom/example/roomwire/roomwire/core/Status;III)Z"⟩ : MethodName)) hown (mvT hZ (hw _ (List.mem_of_getElem? (i := 87) rfl))) (mvT hZ (hw _ (List.mem_of_getElem? (i := 88) rfl))) (mvT hZ (hw _ (List.mem_of_getElem? (i := 5) rfl))) (mvT hZ (hw _ (List.mem_of_getElem? (i := 89) rfl))) (by decide) (backOf (W := 0) (rm16 l Z a0 hw [] wO wC wI cB G (own_pk (own_stv (own_code p3 (14 : Int32)) wO wC) (own_stv (own_code p3 (8 : Int32)) wO wC)) p3 (14 : Int32) (8 : Int32) T117.heap n0 (Nat.le_trans Z0 K117'.1) O117 (own_pk_ref (own_stv_ref _ _ _) (own_stv_ref _ _ _)) rfl) hZ (hw _ (List.mem_of_getElem? (i := 89) rfl)) (hw _ (List.mem_of_getElem? (i := 5) rfl)) (by decide) (by decide)) (g := (mkF m 199 #[.val (.long q0), .second, .val (.long q1), .second, .val (.long q2), .second, .val (.int p3), .val (.int v5), .val (.int v9), .val (.int v16), .val (.int v20), .val (.int v28), .val (.int v33), .val (.ref b101), .val (.ref b109), .val (.ref b_117)] [(.int (8 : Int32)), (.int (14 : Int32)), (.int p3), (own_pk (own_stv (own_code p3 (14 : Int32)) wO wC) (own_stv (own_code p3 (8 : Int32)) wO wC))])) rfl (by rw [hml]; rfl) (argsL := [(own_pk (own_stv (own_code p3 (14 : Int32)) wO wC) (own_stv (own_code p3 (8 : Int32)) wO wC)), (.int p3), (.int (14 : Int32)), (.int (8 : Int32))]) (rest := []) (lenOf pd_13 rfl) rfl (by show 2 * 0 + _ ≤ _; exact Nat.le_of_eq rfl) (hb hby at_199) (fun _ _ => ⟨rfl, e122, (by decide : 9 + 0 ≤ 32), (by decide : 24 + 0 ≤ 128)⟩)
  dsimp only [Pt.U, Pt.locs, Pt.cells, Pt.slots] at X123 l123 y123 z123 st123 hQ123
  rw [l123, y123, z123] at X123
  obtain ⟨rfl, N123q, K123⟩ := hQ123
  have N123 := Fr.app N122 N123q
  have e123 : T123.heap = T117.heap := K123
  refine own_go (B := T123.setTop (mkF m 202 #[.val (.long q0), .second, .val (.long q1), .second, .val (.long q2), .second, .val (.int p3), .val (.int v5), .val (.int v9), .val (.int v16), .val (.int v20), .val (.int v28), .val (.int v33), .val (.ref b101), .val (.ref b109), .val (.ref b_117)] [(.int (1 : Int32))])) (st123) ?_
  refine own_go (B := T123.setTop (mkF m 205 #[.val (.long q0), .second, .val (.long q1), .second, .val (.long q2), .second, .val (.int p3), .val (.int v5), .val (.int v9), .val (.int v16), .val (.int v20), .val (.int v28), .val (.int v33), .val (.ref b101), .val (.ref b109), .val (.ref b_117)] [])) (fun _ k => XS.ifNo X123.here hx rfl (hb hby at_202) rfl ((if0 _ _).trans (feq (by decide : ¬ ((1 : Int32) = (0 : Int32)))).1) k) ?_
  refine own_go (B := T123.setTop (mkF m 207 #[.val (.long q0), .second, .val (.long q1), .second, .val (.long q2), .second, .val (.int p3), .val (.int v5), .val (.int v9), .val (.int v16), .val (.int v20), .val (.int v28), .val (.int v33), .val (.ref b101), .val (.ref b109), .val (.ref b_117)] [(.ref b_117)])) (fun _ k => XS.aload X123.here hx rfl (hb hby at_205) rfl rfl k) ?_
  obtain ⟨cq124, kq124, q124a, q124b, q124c⟩ := isOf hZ e123 E_117
  obtain ⟨_, _, ⟨T124, L124, k124, n124⟩, -, X124, ⟨Lc124, hQ124, l124, y124, z124⟩, st124⟩ := X123.virtualBack hx (y := (⟨"com/example/roomwire/roomwire/core/NightState", "departure", "()Lcom/example/roomwire/roomwire/core/Status;"⟩ : MethodName)) (z := (⟨"com/example/roomwire/roomwire/core/NightState", "departure", "()Lcom/example/roomwire/roomwire/core/Status;"⟩ : MethodName)) hown (mvT hZ (hw _ (List.mem_of_getElem? (i := 95) rfl))) (mvT hZ (hw _ (List.mem_of_getElem? (i := 96) rfl))) (notFace_of_selects (args := #[]) (mvT hZ (hw _ (List.mem_of_getElem? (i := 98) rfl)))) (mvT hZ (hw _ (List.mem_of_getElem? (i := 98) rfl))) (mvT hZ (hw _ (List.mem_of_getElem? (i := 97) rfl))) (by decide) (backOf (W := 0) (rm18 l Z a0 hw [] wO wC wI cB G b_117 (own_pk (own_stv (own_code p3 (16 : Int32)) wO wC) (own_stv (own_code p3 (10 : Int32)) wO wC)) T117.heap n0 (Nat.le_trans Z0 K117'.1) O117 P3_117 (own_pk_ref (own_stv_ref _ _ _) (own_stv_ref _ _ _))) hZ (hw _ (List.mem_of_getElem? (i := 99) rfl)) (hw _ (List.mem_of_getElem? (i := 2) rfl)) (by decide) (by decide)) q124a q124c (g := (mkF m 207 #[.val (.long q0), .second, .val (.long q1), .second, .val (.long q2), .second, .val (.int p3), .val (.int v5), .val (.int v9), .val (.int v16), .val (.int v20), .val (.int v28), .val (.int v33), .val (.ref b101), .val (.ref b109), .val (.ref b_117)] [(.ref b_117)])) rfl (by rw [hml]; rfl) (Steps.refl _) (argsL := []) (rest := []) (lenOf pd_12 rfl) rfl (by show 2 * 0 + _ ≤ _; exact Nat.le_of_eq rfl) (hb hby at_207) (fun _ _ => ⟨rfl, e123, (by decide : 9 + 0 ≤ 32), (by decide : 24 + 0 ≤ 128)⟩)
  dsimp only [Pt.U, Pt.locs, Pt.cells, Pt.slots] at X124 l124 y124 z124 st124 hQ124
  rw [l124, y124, z124] at X124
  obtain ⟨rfl, N124q, K124⟩ := hQ124
  have N124 := Fr.app N123 N124q
  have e124 : T124.heap = T117.heap := K124
  refine own_go (B := T124.setTop (mkF m 210 #[.val (.long q0), .second, .val (.long q1), .second, .val (.long q2), .second, .val (.int p3), .val (.int v5), .val (.int v9), .val (.int v16), .val (.int v20), .val (.int v28), .val (.int v33), .val (.ref b101), .val (.ref b109), .val (.ref b_117)] [(own_pk (own_stv (own_code p3 (16 : Int32)) wO wC) (own_stv (own_code p3 (10 : Int32)) wO wC))])) (fun _ k => st124.trans k) ?_
  refine own_go (B := T124.setTop (mkF m 212 #[.val (.long q0), .second, .val (.long q1), .second, .val (.long q2), .second, .val (.int p3), .val (.int v5), .val (.int v9), .val (.int v16), .val (.int v20), .val (.int v28), .val (.int v33), .val (.ref b101), .val (.ref b109), .val (.ref b_117)] [(.int p3), (own_pk (own_stv (own_code p3 (16 : Int32)) wO wC) (own_stv (own_code p3 (10 : Int32)) wO wC))])) (fun _ k => XS.iload X124.here hx rfl (hb hby at_210) rfl k) ?_
  refine own_go (B := T124.setTop (mkF m 214 #[.val (.long q0), .second, .val (.long q1), .second, .val (.long q2), .second, .val (.int p3), .val (.int v5), .val (.int v9), .val (.int v16), .val (.int v20), .val (.int v28), .val (.int v33), .val (.ref b101), .val (.ref b109), .val (.ref b_117)] [(.int (16 : Int32)), (.int p3), (own_pk (own_stv (own_code p3 (16 : Int32)) wO wC) (own_stv (own_code p3 (10 : Int32)) wO wC))])) (fun _ k => XS.bipush X124.here hx rfl (hb hby at_212) k) ?_
  refine own_go (B := T124.setTop (mkF m 216 #[.val (.long q0), .second, .val (.long q1), .second, .val (.long q2), .second, .val (.int p3), .val (.int v5), .val (.int v9), .val (.int v16), .val (.int v20), .val (.int v28), .val (.int v33), .val (.ref b101), .val (.ref b109), .val (.ref b_117)] [(.int (10 : Int32)), (.int (16 : Int32)), (.int p3), (own_pk (own_stv (own_code p3 (16 : Int32)) wO wC) (own_stv (own_code p3 (10 : Int32)) wO wC))])) (fun _ k => XS.bipush X124.here hx rfl (hb hby at_214) k) ?_
  obtain ⟨_, _, ⟨T125, L125, k125, n125⟩, -, X125, ⟨Lc125, hQ125, l125, y125, z125⟩, st125⟩ := Jvm.LawKit.callS X124 hx (y := (⟨"com/example/roomwire/roomwire/core/NightStateOverlayPinLaw", "statusIs", "(Lcom/example/roomwire/roomwire/core/Status;III)Z"⟩ : MethodName)) hown (mvT hZ (hw _ (List.mem_of_getElem? (i := 87) rfl))) (mvT hZ (hw _ (List.mem_of_getElem? (i := 88) rfl))) (mvT hZ (hw _ (List.mem_of_getElem? (i := 5) rfl))) (mvT hZ (hw _ (List.mem_of_getElem? (i := 89) rfl))) (by decide) (backOf (W := 0) (rm16 l Z a0 hw [] wO wC wI cB G (own_pk (own_stv (own_code p3 (16 : Int32)) wO wC) (own_stv (own_code p3 (10 : Int32)) wO wC)) p3 (16 : Int32) (10 : Int32) T117.heap n0 (Nat.le_trans Z0 K117'.1) O117 (own_pk_ref (own_stv_ref _ _ _) (own_stv_ref _ _ _)) rfl) hZ (hw _ (List.mem_of_getElem? (i := 89) rfl)) (hw _ (List.mem_of_getElem? (i := 5) rfl)) (by decide) (by decide)) (g := (mkF m 216 #[.val (.long q0), .second, .val (.long q1), .second, .val (.long q2), .second, .val (.int p3), .val (.int v5), .val (.int v9), .val (.int v16), .val (.int v20), .val (.int v28), .val (.int v33), .val (.ref b101), .val (.ref b109), .val (.ref b_117)] [(.int (10 : Int32)), (.int (16 : Int32)), (.int p3), (own_pk (own_stv (own_code p3 (16 : Int32)) wO wC) (own_stv (own_code p3 (10 : Int32)) wO wC))])) rfl (by rw [hml]; rfl) (argsL := [(own_pk (own_stv (own_code p3 (16 : Int32)) wO wC) (own_stv (own_code p3 (10 : Int32)) wO wC)), (.int p3), (.int (16 : Int32)), (.int (10 : Int32))]) (rest := []) (lenOf pd_13 rfl) rfl (by show 2 * 0 + _ ≤ _; exact Nat.le_of_eq rfl) (hb hby at_216) (fun _ _ => ⟨rfl, e124, (by decide : 9 + 0 ≤ 32), (by decide : 24 + 0 ≤ 128)⟩)
  dsimp only [Pt.U, Pt.locs, Pt.cells, Pt.slots] at X125 l125 y125 z125 st125 hQ125
  rw [l125, y125, z125] at X125
  obtain ⟨rfl, N125q, K125⟩ := hQ125
  have N125 := Fr.app N124 N125q
  have e125 : T125.heap = T117.heap := K125
  refine own_go (B := T125.setTop (mkF m 219 #[.val (.long q0), .second, .val (.long q1), .second, .val (.long q2), .second, .val (.int p3), .val (.int v5), .val (.int v9), .val (.int v16), .val (.int v20), .val (.int v28), .val (.int v33), .val (.ref b101), .val (.ref b109), .val (.ref b_117)] [(.int (1 : Int32))])) (st125) ?_
  refine own_go (B := T125.setTop (mkF m 222 #[.val (.long q0), .second, .val (.long q1), .second, .val (.long q2), .second, .val (.int p3), .val (.int v5), .val (.int v9), .val (.int v16), .val (.int v20), .val (.int v28), .val (.int v33), .val (.ref b101), .val (.ref b109), .val (.ref b_117)] [])) (fun _ k => XS.ifNo X125.here hx rfl (hb hby at_219) rfl ((if0 _ _).trans (feq (by decide : ¬ ((1 : Int32) = (0 : Int32)))).1) k) ?_
  refine own_go (B := T125.setTop (mkF m 224 #[.val (.long q0), .second, .val (.long q1), .second, .val (.long q2), .second, .val (.int p3), .val (.int v5), .val (.int v9), .val (.int v16), .val (.int v20), .val (.int v28), .val (.int v33), .val (.ref b101), .val (.ref b109), .val (.ref b_117)] [(.ref b_117)])) (fun _ k => XS.aload X125.here hx rfl (hb hby at_222) rfl rfl k) ?_
  obtain ⟨cq126, kq126, q126a, q126b, q126c⟩ := isOf hZ e125 E_117
  obtain ⟨_, _, ⟨T126, L126, k126, n126⟩, -, X126, ⟨Lc126, hQ126, l126, y126, z126⟩, st126⟩ := X125.virtualBack hx (y := (⟨"com/example/roomwire/roomwire/core/NightState", "minStay", "()Ljava/lang/Integer;"⟩ : MethodName)) (z := (⟨"com/example/roomwire/roomwire/core/NightState", "minStay", "()Ljava/lang/Integer;"⟩ : MethodName)) hown (mvT hZ (hw _ (List.mem_of_getElem? (i := 100) rfl))) (mvT hZ (hw _ (List.mem_of_getElem? (i := 101) rfl))) (notFace_of_selects (args := #[]) (mvT hZ (hw _ (List.mem_of_getElem? (i := 103) rfl)))) (mvT hZ (hw _ (List.mem_of_getElem? (i := 103) rfl))) (mvT hZ (hw _ (List.mem_of_getElem? (i := 102) rfl))) (by decide) (backOf (W := 0) (rm19 l Z a0 hw [] wO wC wI cB G b_117 (own_pk u_114 u_106) T117.heap n0 (Nat.le_trans Z0 K117'.1) O117 P4_117 (own_pk_ref hu_114 hu_106)) hZ (hw _ (List.mem_of_getElem? (i := 104) rfl)) (hw _ (List.mem_of_getElem? (i := 2) rfl)) (by decide) (by decide)) q126a q126c (g := (mkF m 224 #[.val (.long q0), .second, .val (.long q1), .second, .val (.long q2), .second, .val (.int p3), .val (.int v5), .val (.int v9), .val (.int v16), .val (.int v20), .val (.int v28), .val (.int v33), .val (.ref b101), .val (.ref b109), .val (.ref b_117)] [(.ref b_117)])) rfl (by rw [hml]; rfl) (Steps.refl _) (argsL := []) (rest := []) (lenOf pd_10 rfl) rfl (by show 2 * 0 + _ ≤ _; exact Nat.le_of_eq rfl) (hb hby at_224) (fun _ _ => ⟨rfl, e125, (by decide : 9 + 0 ≤ 32), (by decide : 24 + 0 ≤ 128)⟩)
  dsimp only [Pt.U, Pt.locs, Pt.cells, Pt.slots] at X126 l126 y126 z126 st126 hQ126
  rw [l126, y126, z126] at X126
  obtain ⟨rfl, N126q, K126⟩ := hQ126
  have N126 := Fr.app N125 N126q
  have e126 : T126.heap = T117.heap := K126
  refine own_go (B := T126.setTop (mkF m 227 #[.val (.long q0), .second, .val (.long q1), .second, .val (.long q2), .second, .val (.int p3), .val (.int v5), .val (.int v9), .val (.int v16), .val (.int v20), .val (.int v28), .val (.int v33), .val (.ref b101), .val (.ref b109), .val (.ref b_117)] [(own_pk u_114 u_106)])) (fun _ k => st126.trans k) ?_
  refine own_go (B := T126.setTop (mkF m 229 #[.val (.long q0), .second, .val (.long q1), .second, .val (.long q2), .second, .val (.int p3), .val (.int v5), .val (.int v9), .val (.int v16), .val (.int v20), .val (.int v28), .val (.int v33), .val (.ref b101), .val (.ref b109), .val (.ref b_117)] [(.int p3), (own_pk u_114 u_106)])) (fun _ k => XS.iload X126.here hx rfl (hb hby at_227) rfl k) ?_
  refine own_go (B := T126.setTop (mkF m 230 #[.val (.long q0), .second, .val (.long q1), .second, .val (.long q2), .second, .val (.int p3), .val (.int v5), .val (.int v9), .val (.int v16), .val (.int v20), .val (.int v28), .val (.int v33), .val (.ref b101), .val (.ref b109), .val (.ref b_117)] [(.int (4 : Int32)), (.int p3), (own_pk u_114 u_106)])) (fun _ k => XS.iconst X126.here hx rfl (hb hby at_229) k) ?_
  refine own_go (B := T126.setTop (mkF m 232 #[.val (.long q0), .second, .val (.long q1), .second, .val (.long q2), .second, .val (.int p3), .val (.int v5), .val (.int v9), .val (.int v16), .val (.int v20), .val (.int v28), .val (.int v33), .val (.ref b101), .val (.ref b109), .val (.ref b_117)] [(.int v20), (.int (4 : Int32)), (.int p3), (own_pk u_114 u_106)])) (fun _ k => XS.iload X126.here hx rfl (hb hby at_230) rfl k) ?_
  refine own_go (B := T126.setTop (mkF m 233 #[.val (.long q0), .second, .val (.long q1), .second, .val (.long q2), .second, .val (.int p3), .val (.int v5), .val (.int v9), .val (.int v16), .val (.int v20), .val (.int v28), .val (.int v33), .val (.ref b101), .val (.ref b109), .val (.ref b_117)] [(.int (1 : Int32)), (.int v20), (.int (4 : Int32)), (.int p3), (own_pk u_114 u_106)])) (fun _ k => XS.iconst X126.here hx rfl (hb hby at_232) k) ?_
  refine own_go (B := T126.setTop (mkF m 235 #[.val (.long q0), .second, .val (.long q1), .second, .val (.long q2), .second, .val (.int p3), .val (.int v5), .val (.int v9), .val (.int v16), .val (.int v20), .val (.int v28), .val (.int v33), .val (.ref b101), .val (.ref b109), .val (.ref b_117)] [(.int v16), (.int (1 : Int32)), (.int v20), (.int (4 : Int32)), (.int p3), (own_pk u_114 u_106)])) (fun _ k => XS.iload X126.here hx rfl (hb hby at_233) rfl k) ?_
  obtain ⟨_, _, ⟨T127, L127, k127, n127⟩, -, X127, ⟨Lc127, hQ127, l127, y127, z127⟩, st127⟩ := Jvm.LawKit.callS X126 hx (y := (⟨"com/example/roomwire/roomwire/core/NightStateOverlayPinLaw", "intIs", "(Ljava/lang/Integer;IIIII)Z"⟩ : MethodName)) hown (mvT hZ (hw _ (List.mem_of_getElem? (i := 74) rfl))) (mvT hZ (hw _ (List.mem_of_getElem? (i := 75) rfl))) (mvT hZ (hw _ (List.mem_of_getElem? (i := 5) rfl))) (mvT hZ (hw _ (List.mem_of_getElem? (i := 76) rfl))) (by decide) (backOf (W := 0) (rm13 l Z a0 hw [] wO wC wI cB G (own_pk u_114 u_106) p3 (4 : Int32) v20 (1 : Int32) v16 T117.heap n0 (Nat.le_trans Z0 K117'.1) O117 (own_pk_ref hu_114 hu_106) (own_ni_pk (own_ni_keep K117 all0 (own_ni_keep K116 (allS (((A109.keep K110).keep K114).keep K115) all0) (own_ni_keep K115 all0 NI_114))) (own_ni_keep K117 all0 (own_ni_keep K116 (allS (((A109.keep K110).keep K114).keep K115) all0) (own_ni_keep K115 all0 (own_ni_keep K114 all0 (own_ni_keep K110 all0 (own_ni_ext E109 (own_ni_keep K108 (allS (((A101.keep K102).keep K106).keep K107) all0) (own_ni_keep K107 all0 NI_106)))))))))) hZ (hw _ (List.mem_of_getElem? (i := 76) rfl)) (hw _ (List.mem_of_getElem? (i := 5) rfl)) (by decide) (by decide)) (g := (mkF m 235 #[.val (.long q0), .second, .val (.long q1), .second, .val (.long q2), .second, .val (.int p3), .val (.int v5), .val (.int v9), .val (.int v16), .val (.int v20), .val (.int v28), .val (.int v33), .val (.ref b101), .val (.ref b109), .val (.ref b_117)] [(.int v16), (.int (1 : Int32)), (.int v20), (.int (4 : Int32)), (.int p3), (own_pk u_114 u_106)])) rfl (by rw [hml]; rfl) (argsL := [(own_pk u_114 u_106), (.int p3), (.int (4 : Int32)), (.int v20), (.int (1 : Int32)), (.int v16)]) (rest := []) (lenOf pd_11 rfl) rfl (by show 2 * 0 + _ ≤ _; exact Nat.le_of_eq rfl) (hb hby at_235) (fun _ _ => ⟨rfl, e126, (by decide : 9 + 0 ≤ 32), (by decide : 24 + 0 ≤ 128)⟩)
  dsimp only [Pt.U, Pt.locs, Pt.cells, Pt.slots] at X127 l127 y127 z127 st127 hQ127
  rw [l127, y127, z127] at X127
  obtain ⟨rfl, N127q, K127⟩ := hQ127
  have N127 := Fr.app N126 N127q
  have e127 : T127.heap = T117.heap := K127
  refine own_go (B := T127.setTop (mkF m 238 #[.val (.long q0), .second, .val (.long q1), .second, .val (.long q2), .second, .val (.int p3), .val (.int v5), .val (.int v9), .val (.int v16), .val (.int v20), .val (.int v28), .val (.int v33), .val (.ref b101), .val (.ref b109), .val (.ref b_117)] [(.int (1 : Int32))])) (st127) ?_
  refine own_go (B := T127.setTop (mkF m 241 #[.val (.long q0), .second, .val (.long q1), .second, .val (.long q2), .second, .val (.int p3), .val (.int v5), .val (.int v9), .val (.int v16), .val (.int v20), .val (.int v28), .val (.int v33), .val (.ref b101), .val (.ref b109), .val (.ref b_117)] [])) (fun _ k => XS.ifNo X127.here hx rfl (hb hby at_238) rfl ((if0 _ _).trans (feq (by decide : ¬ ((1 : Int32) = (0 : Int32)))).1) k) ?_
  refine own_go (B := T127.setTop (mkF m 243 #[.val (.long q0), .second, .val (.long q1), .second, .val (.long q2), .second, .val (.int p3), .val (.int v5), .val (.int v9), .val (.int v16), .val (.int v20), .val (.int v28), .val (.int v33), .val (.ref b101), .val (.ref b109), .val (.ref b_117)] [(.ref b_117)])) (fun _ k => XS.aload X127.here hx rfl (hb hby at_241) rfl rfl k) ?_
  obtain ⟨cq128, kq128, q128a, q128b, q128c⟩ := isOf hZ e127 E_117
  obtain ⟨_, _, ⟨T128, L128, k128, n128⟩, -, X128, ⟨Lc128, hQ128, l128, y128, z128⟩, st128⟩ := X127.virtualBack hx (y := (⟨"com/example/roomwire/roomwire/core/NightState", "maxStay", "()Ljava/lang/Integer;"⟩ : MethodName)) (z := (⟨"com/example/roomwire/roomwire/core/NightState", "maxStay", "()Ljava/lang/Integer;"⟩ : MethodName)) hown (mvT hZ (hw _ (List.mem_of_getElem? (i := 105) rfl))) (mvT hZ (hw _ (List.mem_of_getElem? (i := 106) rfl))) (notFace_of_selects (args := #[]) (mvT hZ (hw _ (List.mem_of_getElem? (i := 108) rfl)))) (mvT hZ (hw _ (List.mem_of_getElem? (i := 108) rfl))) (mvT hZ (hw _ (List.mem_of_getElem? (i := 107) rfl))) (by decide) (backOf (W := 0) (rm20 l Z a0 hw [] wO wC wI cB G b_117 (own_pk u_115 u_107) T117.heap n0 (Nat.le_trans Z0 K117'.1) O117 P5_117 (own_pk_ref hu_115 hu_107)) hZ (hw _ (List.mem_of_getElem? (i := 109) rfl)) (hw _ (List.mem_of_getElem? (i := 2) rfl)) (by decide) (by decide)) q128a q128c (g := (mkF m 243 #[.val (.long q0), .second, .val (.long q1), .second, .val (.long q2), .second, .val (.int p3), .val (.int v5), .val (.int v9), .val (.int v16), .val (.int v20), .val (.int v28), .val (.int v33), .val (.ref b101), .val (.ref b109), .val (.ref b_117)] [(.ref b_117)])) rfl (by rw [hml]; rfl) (Steps.refl _) (argsL := []) (rest := []) (lenOf pd_10 rfl) rfl (by show 2 * 0 + _ ≤ _; exact Nat.le_of_eq rfl) (hb hby at_243) (fun _ _ => ⟨rfl, e127, (by decide : 9 + 0 ≤ 32), (by decide : 24 + 0 ≤ 128)⟩)
  dsimp only [Pt.U, Pt.locs, Pt.cells, Pt.slots] at X128 l128 y128 z128 st128 hQ128
  rw [l128, y128, z128] at X128
  obtain ⟨rfl, N128q, K128⟩ := hQ128
  have N128 := Fr.app N127 N128q
  have e128 : T128.heap = T117.heap := K128
  refine own_go (B := T128.setTop (mkF m 246 #[.val (.long q0), .second, .val (.long q1), .second, .val (.long q2), .second, .val (.int p3), .val (.int v5), .val (.int v9), .val (.int v16), .val (.int v20), .val (.int v28), .val (.int v33), .val (.ref b101), .val (.ref b109), .val (.ref b_117)] [(own_pk u_115 u_107)])) (fun _ k => st128.trans k) ?_
  refine own_go (B := T128.setTop (mkF m 248 #[.val (.long q0), .second, .val (.long q1), .second, .val (.long q2), .second, .val (.int p3), .val (.int v5), .val (.int v9), .val (.int v16), .val (.int v20), .val (.int v28), .val (.int v33), .val (.ref b101), .val (.ref b109), .val (.ref b_117)] [(.int p3), (own_pk u_115 u_107)])) (fun _ k => XS.iload X128.here hx rfl (hb hby at_246) rfl k) ?_
  refine own_go (B := T128.setTop (mkF m 249 #[.val (.long q0), .second, .val (.long q1), .second, .val (.long q2), .second, .val (.int p3), .val (.int v5), .val (.int v9), .val (.int v16), .val (.int v20), .val (.int v28), .val (.int v33), .val (.ref b101), .val (.ref b109), .val (.ref b_117)] [(.int (5 : Int32)), (.int p3), (own_pk u_115 u_107)])) (fun _ k => XS.iconst X128.here hx rfl (hb hby at_248) k) ?_
  refine own_go (B := T128.setTop (mkF m 251 #[.val (.long q0), .second, .val (.long q1), .second, .val (.long q2), .second, .val (.int p3), .val (.int v5), .val (.int v9), .val (.int v16), .val (.int v20), .val (.int v28), .val (.int v33), .val (.ref b101), .val (.ref b109), .val (.ref b_117)] [(.int v33), (.int (5 : Int32)), (.int p3), (own_pk u_115 u_107)])) (fun _ k => XS.iload X128.here hx rfl (hb hby at_249) rfl k) ?_
  refine own_go (B := T128.setTop (mkF m 252 #[.val (.long q0), .second, .val (.long q1), .second, .val (.long q2), .second, .val (.int p3), .val (.int v5), .val (.int v9), .val (.int v16), .val (.int v20), .val (.int v28), .val (.int v33), .val (.ref b101), .val (.ref b109), .val (.ref b_117)] [(.int (2 : Int32)), (.int v33), (.int (5 : Int32)), (.int p3), (own_pk u_115 u_107)])) (fun _ k => XS.iconst X128.here hx rfl (hb hby at_251) k) ?_
  refine own_go (B := T128.setTop (mkF m 254 #[.val (.long q0), .second, .val (.long q1), .second, .val (.long q2), .second, .val (.int p3), .val (.int v5), .val (.int v9), .val (.int v16), .val (.int v20), .val (.int v28), .val (.int v33), .val (.ref b101), .val (.ref b109), .val (.ref b_117)] [(.int v28), (.int (2 : Int32)), (.int v33), (.int (5 : Int32)), (.int p3), (own_pk u_115 u_107)])) (fun _ k => XS.iload X128.here hx rfl (hb hby at_252) rfl k) ?_
  obtain ⟨_, _, ⟨T129, L129, k129, n129⟩, -, X129, ⟨Lc129, hQ129, l129, y129, z129⟩, st129⟩ := Jvm.LawKit.callS X128 hx (y := (⟨"com/example/roomwire/roomwire/core/NightStateOverlayPinLaw", "intIs", "(Ljava/lang/Integer;IIIII)Z"⟩ : MethodName)) hown (mvT hZ (hw _ (List.mem_of_getElem? (i := 74) rfl))) (mvT hZ (hw _ (List.mem_of_getElem? (i := 75) rfl))) (mvT hZ (hw _ (List.mem_of_getElem? (i := 5) rfl))) (mvT hZ (hw _ (List.mem_of_getElem? (i := 76) rfl))) (by decide) (backOf (W := 0) (rm13 l Z a0 hw [] wO wC wI cB G (own_pk u_115 u_107) p3 (5 : Int32) v33 (2 : Int32) v28 T117.heap n0 (Nat.le_trans Z0 K117'.1) O117 (own_pk_ref hu_115 hu_107) (own_ni_pk (own_ni_keep K117 all0 (own_ni_keep K116 (allS (((A109.keep K110).keep K114).keep K115) all0) NI_115)) (own_ni_keep K117 all0 (own_ni_keep K116 (allS (((A109.keep K110).keep K114).keep K115) all0) (own_ni_keep K115 all0 (own_ni_keep K114 all0 (own_ni_keep K110 all0 (own_ni_ext E109 (own_ni_keep K108 (allS (((A101.keep K102).keep K106).keep K107) all0) NI_107))))))))) hZ (hw _ (List.mem_of_getElem? (i := 76) rfl)) (hw _ (List.mem_of_getElem? (i := 5) rfl)) (by decide) (by decide)) (g := (mkF m 254 #[.val (.long q0), .second, .val (.long q1), .second, .val (.long q2), .second, .val (.int p3), .val (.int v5), .val (.int v9), .val (.int v16), .val (.int v20), .val (.int v28), .val (.int v33), .val (.ref b101), .val (.ref b109), .val (.ref b_117)] [(.int v28), (.int (2 : Int32)), (.int v33), (.int (5 : Int32)), (.int p3), (own_pk u_115 u_107)])) rfl (by rw [hml]; rfl) (argsL := [(own_pk u_115 u_107), (.int p3), (.int (5 : Int32)), (.int v33), (.int (2 : Int32)), (.int v28)]) (rest := []) (lenOf pd_11 rfl) rfl (by show 2 * 0 + _ ≤ _; exact Nat.le_of_eq rfl) (hb hby at_254) (fun _ _ => ⟨rfl, e128, (by decide : 9 + 0 ≤ 32), (by decide : 24 + 0 ≤ 128)⟩)
  dsimp only [Pt.U, Pt.locs, Pt.cells, Pt.slots] at X129 l129 y129 z129 st129 hQ129
  rw [l129, y129, z129] at X129
  obtain ⟨rfl, N129q, K129⟩ := hQ129
  have N129 := Fr.app N128 N129q
  have e129 : T129.heap = T117.heap := K129
  refine own_go (B := T129.setTop (mkF m 257 #[.val (.long q0), .second, .val (.long q1), .second, .val (.long q2), .second, .val (.int p3), .val (.int v5), .val (.int v9), .val (.int v16), .val (.int v20), .val (.int v28), .val (.int v33), .val (.ref b101), .val (.ref b109), .val (.ref b_117)] [(.int (1 : Int32))])) (st129) ?_
  refine own_go (B := T129.setTop (mkF m 260 #[.val (.long q0), .second, .val (.long q1), .second, .val (.long q2), .second, .val (.int p3), .val (.int v5), .val (.int v9), .val (.int v16), .val (.int v20), .val (.int v28), .val (.int v33), .val (.ref b101), .val (.ref b109), .val (.ref b_117)] [])) (fun _ k => XS.ifNo X129.here hx rfl (hb hby at_257) rfl ((if0 _ _).trans (feq (by decide : ¬ ((1 : Int32) = (0 : Int32)))).1) k) ?_
  refine own_go (B := T129.setTop (mkF m 261 #[.val (.long q0), .second, .val (.long q1), .second, .val (.long q2), .second, .val (.int p3), .val (.int v5), .val (.int v9), .val (.int v16), .val (.int v20), .val (.int v28), .val (.int v33), .val (.ref b101), .val (.ref b109), .val (.ref b_117)] [(.int (1 : Int32))])) (fun _ k => XS.iconst X129.here hx rfl (hb hby at_260) k) ?_
  refine own_go (B := T129.setTop (mkF m 265 #[.val (.long q0), .second, .val (.long q1), .second, .val (.long q2), .second, .val (.int p3), .val (.int v5), .val (.int v9), .val (.int v16), .val (.int v20), .val (.int v28), .val (.int v33), .val (.ref b101), .val (.ref b109), .val (.ref b_117)] [(.int (1 : Int32))])) (fun _ k => XS.goto X129.here hx rfl (pc0 := 261) (pc' := 265) rfl (hb hby at_261) (by decide) (by decide) k) ?_
  obtain ⟨fs, hr, hrun, hended, hW, hsame⟩ := X129.leave (v := some (.int (nar .boolean (1 : Int32)))) (fun h => by rw [Bd.returns] at h; cases h)
  refine ⟨_, _, retN X129 hx (t := .boolean) Bd.returns (by simp) (hb hby at_265) hr, hrun, hended, _, _, rfl, ?_, ⟨_, rfl⟩, hW, hsame.mono (by decide) (by decide)⟩
  show Q_rm0 Z wO wC wI cB q0 q1 q2 p3 h0 n0 _ T129.heap _
  rw [e129]
  exact ⟨rfl, N129⟩
set_option maxRecDepth 65536 in
set_option maxHeartbeats 40000000 in
theorem comes_1 {Post : Tables → Env → Array Value → State → Outcome → State → Prop} (hpost : ∀ tb e args s v u, (limb_1_1.after args s (.returned v) u = true ∧ limb_1_2.after args s (.returned v) u = true ∧ True) → FrameEnd s (.returned v) u (Jvm.fieldLocs frame_1_writes args s ++ Jvm.arrayLocs frame_1_arrays args s ++ Jvm.staticLocs frame_1_statics s) 32 128 → Post tb e args s (.returned v) u) :
    ArmFor flags0 classFile x code maxLocals ret World_1 tables_1 room_1 Calls_1 rest_1 Pre_1 Post := by
  intro l hfl _ _ p e ha hc hk s m args below hf hA hF happ hP
  obtain ⟨hcalls, hrest, hpre⟩ := hP
  obtain ⟨-, -, -, hnamed, -, -, -, hat⟩ := (Spec.applies_iff hf).mp happ
  obtain ⟨hg, hn⟩ := and_e (Cond.before_iff.mp (show (Jvm.Cond.and given_1 narrow_1).before args s = true from hpre))
  obtain ⟨hcount, hg1⟩ := and_e hg
  obtain ⟨ga0, hg1'⟩ := and_e hg1
  obtain ⟨ga1, hg1''⟩ := and_e hg1'
  obtain ⟨ga2, hg1'''⟩ := and_e hg1''
  obtain ⟨w0, w1, w2, w3, rfl⟩ : ∃ w0 w1 w2 w3 : Value, args = #[w0, w1, w2, w3] := by
    have hs : args.size = 4 := by simpa [Cond.value, given_1] using hcount
    obtain ⟨L⟩ := args
    match L, hs with
    | [w0, w1, w2, w3], _ => exact ⟨w0, w1, w2, w3, rfl⟩
  have hw := fun d (hd : d ∈ tables_1) => atoms_spec (ws := Jvm.Cond.code x code maxLocals ret :: tables_1) hat d (List.mem_cons_of_mem _ hd)
  have hfit : Fit s := fun {y c} hc i hi => by
    obtain ⟨ha, rfl⟩ := Array.getElem?_eq_some_iff.mp hc
    have q := List.all_eq_true.mp ((Array.all_eq_true_iff_forall_mem.mp hF) _ (Array.getElem_mem ha)) i (List.mem_range.mpr hi)
    simpa [Array.getElem?_eq_getElem hi] using q
  obtain ⟨hsets, hown0⟩ := atoms_of _ (rest_1_c_eq ▸ (show rest_1_c.before _ s = true from hrest))
  have hr0 := Cond.before_iff.mp hown0
  obtain ⟨i0, ei0⟩ := isL_v ga0
  obtain rfl : w0 = (.long i0) := Option.some.inj ei0
  obtain ⟨i1, ei1⟩ := isL_v ga1
  obtain rfl : w1 = (.long i1) := Option.some.inj ei1
  obtain ⟨i2, ei2⟩ := isL_v ga2
  obtain rfl : w2 = (.long i2) := Option.some.inj ei2
  obtain ⟨i3, ei3⟩ := is_v hg1'''
  obtain rfl : w3 = (.int i3) := Option.some.inj ei3
  obtain ⟨hN1, hN1'⟩ := and_e hn
  obtain ⟨wO, ev_wO⟩ := exa_v hN1
  have S_Status_OPEN := Sta.start ev_wO (Or.inr ⟨(hw _ (List.mem_of_getElem? (i := 111) rfl)), (hw _ (List.mem_of_getElem? (i := 112) rfl))⟩)
  have E_wO := Exa.start ev_wO hN1
  obtain ⟨wC, ev_wC⟩ := exa_v hN1'
  have S_Status_CLOSED := Sta.start ev_wC (Or.inr ⟨(hw _ (List.mem_of_getElem? (i := 111) rfl)), (hw _ (List.mem_of_getElem? (i := 116) rfl))⟩)
  have E_wC := Exa.start ev_wC hN1'
  obtain ⟨wI, ev_wI⟩ := arr_v (Cond.before_iff.mp (hsets _ (List.mem_of_getElem? (i := 4) rfl)))
  have S_Integer_IntegerCache_cache := Sta.start ev_wI (Or.inr ⟨(hw _ (List.mem_of_getElem? (i := 12) rfl)), (hsets _ (List.mem_of_getElem? (i := 2) rfl))⟩)
  obtain ⟨cl_wI, Ar_wI⟩ := Arr.start ev_wI (Cond.before_iff.mp (hsets _ (List.mem_of_getElem? (i := 4) rfl)))
  have E_wI := Exa.start ev_wI (Cond.before_iff.mp (hsets _ (List.mem_of_getElem? (i := 5) rfl)))
  have S_Integer_IntegerCache_high := Sta.start (eqv_i (y := 127) rfl (Cond.before_iff.mp (hsets _ (List.mem_of_getElem? (i := 3) rfl)))) (Or.inr ⟨(hw _ (List.mem_of_getElem? (i := 12) rfl)), (hsets _ (List.mem_of_getElem? (i := 0) rfl))⟩)
  have Ln_wI := own_len ev_wI Ar_wI (Cond.before_iff.mp (hsets _ (List.mem_of_getElem? (i := 6) rfl)))
  have BX := own_bxs (fun _ => ev_wI) Ar_wI Ln_wI (Cond.before_iff.mp (hsets _ (List.mem_of_getElem? (i := 7) rfl)))
  obtain ⟨n, o, h1, h2, h3, _, L, rfl, ⟨rfl, N⟩, hq⟩ := rm0 l s _ hw tables_1 wO wC wI cl_wI ⟨S_Status_OPEN, E_wO, S_Status_CLOSED, E_wC, S_Integer_IntegerCache_cache, E_wI, S_Integer_IntegerCache_high, BX, trivial⟩ i0 i1 i2 i3 s.heap s.heap.size (Nat.le_refl _) (Old.start s)  p e ha hc hk s m _ below hf ((Spec.applies_iff_loose hf).mp happ).1 ⟨rfl, State.Warmed39.refl s, rfl⟩ trivial
  refine ⟨n, _, h1, h2, h3, hpost _ _ _ _ _ _ ⟨Cond.after_iff.mpr rfl, Cond.after_iff.mpr (eq_i res_at (Term.int_eval (1)) rfl), trivial⟩ ⟨hq.1, hq.2.1, (hq.2.2.sift fun y hy => Or.inr (N y hy)).mono (by decide) (by decide)⟩⟩
theorem main_1_1 : Claimed_1_1 := comes_1 fun _ _ _ _ _ _ h hF => ⟨h.1, hF⟩
theorem main_1_2 : Claimed_1_2 := comes_1 fun _ _ _ _ _ _ h hF => ⟨h.2.1, hF⟩
end Jvm.Pilot.@@N@@
namespace Jvm.Pilot.@@N@@
open Jvm Jvm.ClassFile Sem Op Lib Jvm.Free Jvm.Stand Jvm.Pilot.@@N@@.Jvm.D
/-! MADE BY PROGRAM (witnessworld.py) out of the Statement's table words and the real class files: 19 classes; the members and pool entries that the words name. The judged class is class 1, her method 1. -/
namespace start1
open Jvm.ClassFile
def u (s : String) : CpInfo := .utf8 (stringToUtf16 s)
/-- a pool by its gaps: so many unusable entries, then the entry; so many at the end -/
def gap : Nat → List CpInfo → List CpInfo
  | 0, r => r
  | n + 1, r => .unusable :: gap n r
def poolList (es : List (Nat × CpInfo)) (last : Nat) : List CpInfo := es.foldr (fun e r => gap e.1 (e.2 :: r)) (gap last [])
def pool (es : List (Nat × CpInfo)) (last : Nat) : Array CpInfo := ⟨poolList es last⟩
def fileOf (pool : Array CpInfo) (this : Nat) (attrs : Array Attribute := #[]) (ms : Array MethodInfo := #[]) (fl : Nat := 33) (sup : Nat := 0) (ifs : Array Nat := #[]) (fds : Array FieldInfo := #[]) : ClassFile where
  minorVersion := 0
  majorVersion := 65
  constantPool := pool
  accessFlags := fl
  thisClass := this
  superClass := sup
  interfaces := ifs
  fields := fds
  methods := ms
  attributes := attrs
def plain (name : String) (sup : Option ClassId) : Class where
  name := name
  kind := .ordinary
  loader := none
  accessFlags := 33
  super := sup
  interfaces := #[]
  cf := none
  fields := #[]
  methods := #[]
  instanceTypes := #[]
  staticTypes := #[]
  resolved := #[]
  callSites := []
  init := .initialized
  statics := none
  mirror := none

def pool0 : Array CpInfo := pool [(5, u "<init>"), (0, u "()V"), (1, .class_ 10), (1, u "java/lang/Object")] 113

def k0c0 : Code := { maxStack := 0, maxLocals := 1, code := object_method_1_code, exceptionTable := #[], attributes := #[] }
def k0m0 : Method := { name := "<init>", desc := "()V", sig := { parameters := [], returnType := none }, accessFlags := 1, code := some k0c0 }
/-- java/lang/Object -/
def k0 : Class := { plain "java/lang/Object" none with
  accessFlags := 33
  interfaces := #[]
  cf := some (fileOf pool0 8 #[] #[{ accessFlags := 1, nameIndex := 5, descriptorIndex := 6, attributes := #[] }] 33 0 #[] #[])
  fields := #[]
  methods := #[k0m0]
  instanceTypes := #[]
  staticTypes := #[]
  resolved := Array.replicate 124 none
  statics := none }

def pool1 : Array CpInfo := pool [(2, .class_ 4), (1, u "java/lang/Object"), (0, u "<init>"), (0, u "()V"), (0, .class_ 8), (0, u "com/example/roomwire/roomwire/core/NightState"), (0, .methodref 10 11), (0, .class_ 12), (0, .nameAndType 13 14), (0, u "com/example/roomwire/roomwire/core/NightStateOverlayPinLaw"), (0, u "num"), (0, u "(III)Ljava/lang/Integer;"), (0, .methodref 10 16), (0, .nameAndType 17 18), (0, u "st"), (0, u "(II)Lcom/example/roomwire/roomwire/core/Status;"), (0, .methodref 7 20), (0, .nameAndType 5 21), (0, u "(Ljava/lang/Integer;Lcom/example/roomwire/roomwire/core/Status;Lcom/example/roomwire/roomwire/core/Status;Lcom/example/roomwire/roomwire/core/Status;Ljava/lang/Integer;Ljava/lang/Integer;)V"), (0, .methodref 7 23), (0, .nameAndType 24 25), (0, u "overlay"), (0, u "(Lcom/example/roomwire/roomwire/core/NightState;)Lcom/example/roomwire/roomwire/core/NightState;"), (0, .methodref 7 27), (0, .nameAndType 28 29), (0, u "bookingLimit"), (0, u "()Ljava/lang/Integer;"), (0, .methodref 10 31), (0, .nameAndType 32 33), (0, u "intIs"), (0, u "(Ljava/lang/Integer;IIIII)Z"), (0, .methodref 7 35), (0, .nameAndType 36 37), (0, u "master"), (0, u "()Lcom/example/roomwire/roomwire/core/Status;"), (0, .methodref 10 39), (0, .nameAndType 40 41), (0, u "statusIs"), (0, u "(Lcom/example/roomwire/roomwire/core/Status;III)Z"), (0, .methodref 7 43), (0, .nameAndType 44 37), (0, u "arrival"), (0, .methodref 7 46), (0, .nameAndType 47 37), (0, u "departure"), (0, .methodref 7 49), (0, .nameAndType 50 29), (0, u "minStay"), (0, .methodref 7 52), (0, .nameAndType 53 29), (0, u "maxStay"), (0, .methodref 55 56), (0, .class_ 57), (0, .nameAndType 58 59), (0, u "java/lang/Integer"), (0, u "valueOf"), (0, u "(I)Ljava/lang/Integer;"), (0, .methodref 10 61), (0, .nameAndType 62 63), (0, u "code"), (0, u "(II)I"), (0, .fieldref 65 66), (0, .class_ 67), (0, .nameAndType 68 69), (0, u "com/example/roomwire/roomwire/core/Status"), (0, u "OPEN"), (0, u "Lcom/example/roomwire/roomwire/core/Status;"), (0, .fieldref 65 71), (0, .nameAndType 72 69), (0, u "CLOSED"), (0, .methodref 55 74), (0, .nameAndType 75 76), (0, u "intValue"), (0, u "()I"), (2, u "law"), (0, u "(JJJI)Z")] 3

def k1m0 : Method := { name := "<init>", desc := "()V", sig := { parameters := [], returnType := none }, accessFlags := 1, code := none }
def k1c1 : Code := { maxStack := 10, maxLocals := 16, code := code, exceptionTable := #[], attributes := #[] }
def k1m1 : Method := { name := "law", desc := "(JJJI)Z", sig := { parameters := [.long, .long, .long, .int], returnType := some .boolean }, accessFlags := 9, code := some k1c1 }
def k1c2 : Code := { maxStack := 2, maxLocals := 3, code := method_3_code, exceptionTable := #[], attributes := #[] }
def k1m2 : Method := { name := "num", desc := "(III)Ljava/lang/Integer;", sig := { parameters := [.int, .int, .int], returnType := some (.object "java/lang/Integer") }, accessFlags := 10, code := some k1c2 }
def k1c3 : Code := { maxStack := 2, maxLocals := 3, code := method_4_code, exceptionTable := #[], attributes := #[] }
def k1m3 : Method := { name := "code", desc := "(II)I", sig := { parameters := [.int, .int], returnType := some .int }, accessFlags := 10, code := some k1c3 }
def k1c4 : Code := { maxStack := 2, maxLocals := 3, code := method_5_code, exceptionTable := #[], attributes := #[] }
def k1m4 : Method := { name := "st", desc := "(II)Lcom/example/roomwire/roomwire/core/Status;", sig := { parameters := [.int, .int], returnType := some (.object "com/example/roomwire/roomwire/core/Status") }, accessFlags := 10, code := some k1c4 }
def k1c5 : Code := { maxStack := 2, maxLocals := 6, code := method_6_code, exceptionTable := #[], attributes := #[] }
def k1m5 : Method := { name := "intIs", desc := "(Ljava/lang/Integer;IIIII)Z", sig := { parameters := [(.object "java/lang/Integer"), .int, .int, .int, .int, .int], returnType := some .boolean }, accessFlags := 10, code := some k1c5 }
def k1c6 : Code := { maxStack := 2, maxLocals := 5, code := method_7_code, exceptionTable := #[], attributes := #[] }
def k1m6 : Method := { name := "statusIs", desc := "(Lcom/example/roomwire/roomwire/core/Status;III)Z", sig := { parameters := [(.object "com/example/roomwire/roomwire/core/Status"), .int, .int, .int], returnType := some .boolean }, accessFlags := 10, code := some k1c6 }
/-- com/example/roomwire/roomwire/core/NightStateOverlayPinLaw -/
def k1 : Class := { plain "com/example/roomwire/roomwire/core/NightStateOverlayPinLaw" (some 0) with
  accessFlags := 49
  interfaces := #[]
  cf := some (fileOf pool1 10 #[] #[{ accessFlags := 1, nameIndex := 5, descriptorIndex := 6, attributes := #[] }, { accessFlags := 9, nameIndex := 79, descriptorIndex := 80, attributes := #[] }, { accessFlags := 10, nameIndex := 13, descriptorIndex := 14, attributes := #[] }, { accessFlags := 10, nameIndex := 62, descriptorIndex := 63, attributes := #[] }, { accessFlags := 10, nameIndex := 17, descriptorIndex := 18, attributes := #[] }, { accessFlags := 10, nameIndex := 32, descriptorIndex := 33, attributes := #[] }, { accessFlags := 10, nameIndex := 40, descriptorIndex := 41, attributes := #[] }] 49 2 #[] #[])
  fields := #[]
  methods := #[k1m0, k1m1, k1m2, k1m3, k1m4, k1m5, k1m6]
  instanceTypes := #[]
  staticTypes := #[]
  resolved := Array.replicate 84 none
  statics := none }

def pool2 : Array CpInfo := pool [(1, .methodref 2 3), (0, .class_ 4), (0, .nameAndType 5 6), (0, u "java/lang/Object"), (0, u "<init>"), (0, u "()V"), (0, .class_ 8), (0, u "java/lang/Record")] 13

def k2c0 : Code := { maxStack := 1, maxLocals := 1, code := jdk_30_method_1_code, exceptionTable := #[], attributes := #[] }
def k2m0 : Method := { name := "<init>", desc := "()V", sig := { parameters := [], returnType := none }, accessFlags := 4, code := some k2c0 }
/-- java/lang/Record -/
def k2 : Class := { plain "java/lang/Record" (some 0) with
  accessFlags := 1057
  interfaces := #[]
  cf := some (fileOf pool2 7 #[] #[{ accessFlags := 4, nameIndex := 5, descriptorIndex := 6, attributes := #[] }] 1057 2 #[] #[])
  fields := #[]
  methods := #[k2m0]
  instanceTypes := #[]
  staticTypes := #[]
  resolved := Array.replicate 22 none
  statics := none }

def pool3 : Array CpInfo := pool [(1, .methodref 2 3), (0, .class_ 4), (0, .nameAndType 5 6), (0, u "java/lang/Record"), (0, u "<init>"), (0, u "()V"), (0, .fieldref 8 9), (0, .class_ 10), (0, .nameAndType 11 12), (0, u "com/example/roomwire/roomwire/core/NightState"), (0, u "bookingLimit"), (0, u "Ljava/lang/Integer;"), (0, .fieldref 8 14), (0, .nameAndType 15 16), (0, u "master"), (0, u "Lcom/example/roomwire/roomwire/core/Status;"), (0, .fieldref 8 18), (0, .nameAndType 19 16), (0, u "arrival"), (0, .fieldref 8 21), (0, .nameAndType 22 16), (0, u "departure"), (0, .fieldref 8 24), (0, .nameAndType 25 12), (0, u "minStay"), (0, .fieldref 8 27), (0, .nameAndType 28 12), (0, u "maxStay"), (0, .methodref 8 30), (0, .nameAndType 31 32), (0, u "pick"), (0, u "(Ljava/lang/Object;Ljava/lang/Object;)Ljava/lang/Object;"), (0, .class_ 34), (0, u "java/lang/Integer"), (0, .class_ 36), (0, u "com/example/roomwire/roomwire/core/Status"), (0, .methodref 8 38), (0, .nameAndType 5 39), (0, u "(Ljava/lang/Integer;Lcom/example/roomwire/roomwire/core/Status;Lcom/example/roomwire/roomwire/core/Status;Lcom/example/roomwire/roomwire/core/Status;Ljava/lang/Integer;Ljava/lang/Integer;)V"), (45, u "UNSET"), (0, u "Lcom/example/roomwire/roomwire/core/NightState;"), (3, u "overlay"), (0, u "(Lcom/example/roomwire/roomwire/core/NightState;)Lcom/example/roomwire/roomwire/core/NightState;"), (8, u "()Ljava/lang/Integer;"), (0, u "()Lcom/example/roomwire/roomwire/core/Status;")] 26

def k3c0 : Code := { maxStack := 2, maxLocals := 7, code := prog_25_method_1_code, exceptionTable := #[], attributes := #[] }
def k3m0 : Method := { name := "<init>", desc := "(Ljava/lang/Integer;Lcom/example/roomwire/roomwire/core/Status;Lcom/example/roomwire/roomwire/core/Status;Lcom/example/roomwire/roomwire/core/Status;Ljava/lang/Integer;Ljava/lang/Integer;)V", sig := { parameters := [(.object "java/lang/Integer"), (.object "com/example/roomwire/roomwire/core/Status"), (.object "com/example/roomwire/roomwire/core/Status"), (.object "com/example/roomwire/roomwire/core/Status"), (.object "java/lang/Integer"), (.object "java/lang/Integer")], returnType := none }, accessFlags := 1, code := some k3c0 }
def k3c1 : Code := { maxStack := 9, maxLocals := 2, code := prog_25_method_2_code, exceptionTable := #[], attributes := #[] }
def k3m1 : Method := { name := "overlay", desc := "(Lcom/example/roomwire/roomwire/core/NightState;)Lcom/example/roomwire/roomwire/core/NightState;", sig := { parameters := [(.object "com/example/roomwire/roomwire/core/NightState")], returnType := some (.object "com/example/roomwire/roomwire/core/NightState") }, accessFlags := 1, code := some k3c1 }
def k3c2 : Code := { maxStack := 1, maxLocals := 2, code := prog_25_method_4_code, exceptionTable := #[], attributes := #[] }
def k3m2 : Method := { name := "pick", desc := "(Ljava/lang/Object;Ljava/lang/Object;)Ljava/lang/Object;", sig := { parameters := [(.object "java/lang/Object"), (.object "java/lang/Object")], returnType := some (.object "java/lang/Object") }, accessFlags := 10, code := some k3c2 }
def k3c3 : Code := { maxStack := 1, maxLocals := 1, code := prog_25_method_11_code, exceptionTable := #[], attributes := #[] }
def k3m3 : Method := { name := "bookingLimit", desc := "()Ljava/lang/Integer;", sig := { parameters := [], returnType := some (.object "java/lang/Integer") }, accessFlags := 1, code := some k3c3 }
def k3c4 : Code := { maxStack := 1, maxLocals := 1, code := prog_25_method_12_code, exceptionTable := #[], attributes := #[] }
def k3m4 : Method := { name := "master", desc := "()Lcom/example/roomwire/roomwire/core/Status;", sig := { parameters := [], returnType := some (.object "com/example/roomwire/roomwire/core/Status") }, accessFlags := 1, code := some k3c4 }
def k3c5 : Code := { maxStack := 1, maxLocals := 1, code := prog_25_method_13_code, exceptionTable := #[], attributes := #[] }
def k3m5 : Method := { name := "arrival", desc := "()Lcom/example/roomwire/roomwire/core/Status;", sig := { parameters := [], returnType := some (.object "com/example/roomwire/roomwire/core/Status") }, accessFlags := 1, code := some k3c5 }
def k3c6 : Code := { maxStack := 1, maxLocals := 1, code := prog_25_method_14_code, exceptionTable := #[], attributes := #[] }
def k3m6 : Method := { name := "departure", desc := "()Lcom/example/roomwire/roomwire/core/Status;", sig := { parameters := [], returnType := some (.object "com/example/roomwire/roomwire/core/Status") }, accessFlags := 1, code := some k3c6 }
def k3c7 : Code := { maxStack := 1, maxLocals := 1, code := prog_25_method_15_code, exceptionTable := #[], attributes := #[] }
def k3m7 : Method := { name := "minStay", desc := "()Ljava/lang/Integer;", sig := { parameters := [], returnType := some (.object "java/lang/Integer") }, accessFlags := 1, code := some k3c7 }
def k3c8 : Code := { maxStack := 1, maxLocals := 1, code := prog_25_method_16_code, exceptionTable := #[], attributes := #[] }
def k3m8 : Method := { name := "maxStay", desc := "()Ljava/lang/Integer;", sig := { parameters := [], returnType := some (.object "java/lang/Integer") }, accessFlags := 1, code := some k3c8 }
/-- com/example/roomwire/roomwire/core/NightState -/
def k3 : Class := { plain "com/example/roomwire/roomwire/core/NightState" (some 2) with
  accessFlags := 49
  interfaces := #[]
  cf := some (fileOf pool3 8 #[] #[{ accessFlags := 1, nameIndex := 5, descriptorIndex := 39, attributes := #[] }, { accessFlags := 1, nameIndex := 90, descriptorIndex := 91, attributes := #[] }, { accessFlags := 10, nameIndex := 31, descriptorIndex := 32, attributes := #[] }, { accessFlags := 1, nameIndex := 11, descriptorIndex := 100, attributes := #[] }, { accessFlags := 1, nameIndex := 15, descriptorIndex := 101, attributes := #[] }, { accessFlags := 1, nameIndex := 19, descriptorIndex := 101, attributes := #[] }, { accessFlags := 1, nameIndex := 22, descriptorIndex := 101, attributes := #[] }, { accessFlags := 1, nameIndex := 25, descriptorIndex := 100, attributes := #[] }, { accessFlags := 1, nameIndex := 28, descriptorIndex := 100, attributes := #[] }] 49 2 #[] #[{ accessFlags := 18, nameIndex := 11, descriptorIndex := 12, attributes := #[] }, { accessFlags := 18, nameIndex := 15, descriptorIndex := 16, attributes := #[] }, { accessFlags := 18, nameIndex := 19, descriptorIndex := 16, attributes := #[] }, { accessFlags := 18, nameIndex := 22, descriptorIndex := 16, attributes := #[] }, { accessFlags := 18, nameIndex := 25, descriptorIndex := 12, attributes := #[] }, { accessFlags := 18, nameIndex := 28, descriptorIndex := 12, attributes := #[] }, { accessFlags := 25, nameIndex := 85, descriptorIndex := 86, attributes := #[] }])
  fields := #[{ name := "bookingLimit", type := (.object "java/lang/Integer"), accessFlags := 18, slot := 0, constantValue := 0 }, { name := "master", type := (.object "com/example/roomwire/roomwire/core/Status"), accessFlags := 18, slot := 1, constantValue := 0 }, { name := "arrival", type := (.object "com/example/roomwire/roomwire/core/Status"), accessFlags := 18, slot := 2, constantValue := 0 }, { name := "departure", type := (.object "com/example/roomwire/roomwire/core/Status"), accessFlags := 18, slot := 3, constantValue := 0 }, { name := "minStay", type := (.object "java/lang/Integer"), accessFlags := 18, slot := 4, constantValue := 0 }, { name := "maxStay", type := (.object "java/lang/Integer"), accessFlags := 18, slot := 5, constantValue := 0 }, { name := "UNSET", type := (.object "com/example/roomwire/roomwire/core/NightState"), accessFlags := 25, slot := 0, constantValue := 0 }]
  methods := #[k3m0, k3m1, k3m2, k3m3, k3m4, k3m5, k3m6, k3m7, k3m8]
  instanceTypes := #[(.object "java/lang/Integer"), (.object "com/example/roomwire/roomwire/core/Status"), (.object "com/example/roomwire/roomwire/core/Status"), (.object "com/example/roomwire/roomwire/core/Status"), (.object "java/lang/Integer"), (.object "java/lang/Integer")]
  staticTypes := #[(.object "com/example/roomwire/roomwire/core/NightState")]
  resolved := Array.replicate 128 none
  statics := none }

def pool4 : Array CpInfo := pool [(1, .class_ 2), (0, u "java/io/Serializable"), (0, .class_ 4), (0, u "java/lang/Object")] 2

/-- java/io/Serializable -/
def k4 : Class := { plain "java/io/Serializable" (some 0) with
  accessFlags := 1537
  interfaces := #[]
  cf := some (fileOf pool4 1 #[] #[] 1537 3 #[] #[])
  fields := #[]
  methods := #[]
  instanceTypes := #[]
  staticTypes := #[]
  resolved := Array.replicate 7 none
  statics := none }

def pool5 : Array CpInfo := pool [(1, .methodref 2 3), (0, .class_ 4), (0, .nameAndType 5 6), (0, u "java/lang/Object"), (0, u "<init>"), (0, u "()V"), (1, .class_ 10), (1, u "java/lang/Number"), (2, .class_ 14), (0, u "java/io/Serializable"), (0, u "serialVersionUID"), (0, u "J")] 20

def k5c0 : Code := { maxStack := 1, maxLocals := 1, code := jdk_18_method_1_code, exceptionTable := #[], attributes := #[] }
def k5m0 : Method := { name := "<init>", desc := "()V", sig := { parameters := [], returnType := none }, accessFlags := 1, code := some k5c0 }
/-- java/lang/Number -/
def k5 : Class := { plain "java/lang/Number" (some 0) with
  accessFlags := 1057
  interfaces := #[4]
  cf := some (fileOf pool5 8 #[] #[{ accessFlags := 1, nameIndex := 5, descriptorIndex := 6, attributes := #[] }] 1057 2 #[13] #[{ accessFlags := 26, nameIndex := 15, descriptorIndex := 16, attributes := #[] }])
  fields := #[{ name := "serialVersionUID", type := .long, accessFlags := 26, slot := 0, constantValue := 0 }]
  methods := #[k5m0]
  instanceTypes := #[]
  staticTypes := #[.long]
  resolved := Array.replicate 37 none
  statics := none }

def pool6 : Array CpInfo := pool [(1, .class_ 2), (0, u "java/lang/Comparable"), (0, .class_ 4), (0, u "java/lang/Object")] 7

/-- java/lang/Comparable -/
def k6 : Class := { plain "java/lang/Comparable" (some 0) with
  accessFlags := 1537
  interfaces := #[]
  cf := some (fileOf pool6 1 #[] #[] 1537 3 #[] #[])
  fields := #[]
  methods := #[]
  instanceTypes := #[]
  staticTypes := #[]
  resolved := Array.replicate 12 none
  statics := none }

def pool7 : Array CpInfo := pool [(1, .class_ 2), (0, u "java/lang/constant/Constable"), (0, .class_ 4), (0, u "java/lang/Object")] 6

/-- java/lang/constant/Constable -/
def k7 : Class := { plain "java/lang/constant/Constable" (some 0) with
  accessFlags := 1537
  interfaces := #[]
  cf := some (fileOf pool7 1 #[] #[] 1537 3 #[] #[])
  fields := #[]
  methods := #[]
  instanceTypes := #[]
  staticTypes := #[]
  resolved := Array.replicate 11 none
  statics := none }

def pool8 : Array CpInfo := pool [(1, .class_ 2), (0, u "java/lang/constant/ConstantDesc"), (0, .class_ 4), (0, u "java/lang/Object")] 32

/-- java/lang/constant/ConstantDesc -/
def k8 : Class := { plain "java/lang/constant/ConstantDesc" (some 0) with
  accessFlags := 1537
  interfaces := #[]
  cf := some (fileOf pool8 1 #[] #[] 1537 3 #[] #[])
  fields := #[]
  methods := #[]
  instanceTypes := #[]
  staticTypes := #[]
  resolved := Array.replicate 37 none
  statics := none }

def pool9 : Array CpInfo := pool [(1, .class_ 2), (0, u "java/lang/Integer"), (16, u "digits"), (0, u "[C"), (46, u "<init>"), (17, u "DigitOnes"), (0, u "[B"), (2, u "DigitTens"), (10, .nameAndType 67 101), (0, u "()V"), (19, u "()I"), (65, u "valueOf"), (0, u "(I)Ljava/lang/Integer;"), (0, .class_ 190), (0, u "java/lang/Integer$IntegerCache"), (0, .fieldref 189 192), (0, .nameAndType 193 194), (0, u "high"), (0, u "I"), (0, .fieldref 189 196), (0, .nameAndType 197 198), (0, u "cache"), (0, u "[Ljava/lang/Integer;"), (0, .methodref 1 200), (0, .nameAndType 67 201), (0, u "(I)V"), (0, .methodref 203 100), (0, .class_ 204), (0, u "java/lang/Number"), (0, .fieldref 1 206), (0, .nameAndType 207 194), (0, u "value"), (5, u "intValue"), (88, u "TYPE"), (0, u "Ljava/lang/Class;"), (0, .class_ 305), (0, u "java/lang/Comparable"), (0, .class_ 307), (0, u "java/lang/constant/Constable"), (0, .class_ 309), (0, u "java/lang/constant/ConstantDesc"), (0, u "MIN_VALUE"), (1, u "MAX_VALUE"), (3, u "SIZE"), (1, u "BYTES"), (1, u "serialVersionUID"), (0, u "J")] 131

def k9c0 : Code := { maxStack := 3, maxLocals := 1, code := jdk_33_method_22_code, exceptionTable := #[], attributes := #[] }
def k9m0 : Method := { name := "valueOf", desc := "(I)Ljava/lang/Integer;", sig := { parameters := [.int], returnType := some (.object "java/lang/Integer") }, accessFlags := 9, code := some k9c0 }
def k9c1 : Code := { maxStack := 2, maxLocals := 2, code := jdk_33_method_23_code, exceptionTable := #[], attributes := #[] }
def k9m1 : Method := { name := "<init>", desc := "(I)V", sig := { parameters := [.int], returnType := none }, accessFlags := 1, code := some k9c1 }
def k9c2 : Code := { maxStack := 1, maxLocals := 1, code := jdk_33_method_27_code, exceptionTable := #[], attributes := #[] }
def k9m2 : Method := { name := "intValue", desc := "()I", sig := { parameters := [], returnType := some .int }, accessFlags := 1, code := some k9c2 }
/-- java/lang/Integer -/
def k9 : Class := { plain "java/lang/Integer" (some 5) with
  accessFlags := 49
  interfaces := #[6, 7, 8]
  cf := some (fileOf pool9 1 #[.nestMembers #[189]] #[{ accessFlags := 9, nameIndex := 187, descriptorIndex := 188, attributes := #[] }, { accessFlags := 1, nameIndex := 67, descriptorIndex := 201, attributes := #[] }, { accessFlags := 1, nameIndex := 213, descriptorIndex := 121, attributes := #[] }] 49 203 #[304, 306, 308] #[{ accessFlags := 25, nameIndex := 310, descriptorIndex := 194, attributes := #[] }, { accessFlags := 25, nameIndex := 312, descriptorIndex := 194, attributes := #[] }, { accessFlags := 25, nameIndex := 302, descriptorIndex := 303, attributes := #[] }, { accessFlags := 24, nameIndex := 19, descriptorIndex := 20, attributes := #[] }, { accessFlags := 24, nameIndex := 89, descriptorIndex := 86, attributes := #[] }, { accessFlags := 24, nameIndex := 85, descriptorIndex := 86, attributes := #[] }, { accessFlags := 18, nameIndex := 207, descriptorIndex := 194, attributes := #[] }, { accessFlags := 25, nameIndex := 316, descriptorIndex := 194, attributes := #[] }, { accessFlags := 25, nameIndex := 318, descriptorIndex := 194, attributes := #[] }, { accessFlags := 26, nameIndex := 320, descriptorIndex := 321, attributes := #[] }])
  fields := #[{ name := "MIN_VALUE", type := .int, accessFlags := 25, slot := 0, constantValue := 0 }, { name := "MAX_VALUE", type := .int, accessFlags := 25, slot := 1, constantValue := 0 }, { name := "TYPE", type := (.object "java/lang/Class"), accessFlags := 25, slot := 2, constantValue := 0 }, { name := "digits", type := (.array .char), accessFlags := 24, slot := 3, constantValue := 0 }, { name := "DigitTens", type := (.array .byte), accessFlags := 24, slot := 4, constantValue := 0 }, { name := "DigitOnes", type := (.array .byte), accessFlags := 24, slot := 5, constantValue := 0 }, { name := "value", type := .int, accessFlags := 18, slot := 0, constantValue := 0 }, { name := "SIZE", type := .int, accessFlags := 25, slot := 6, constantValue := 0 }, { name := "BYTES", type := .int, accessFlags := 25, slot := 7, constantValue := 0 }, { name := "serialVersionUID", type := .long, accessFlags := 26, slot := 8, constantValue := 0 }]
  methods := #[k9m0, k9m1, k9m2]
  instanceTypes := #[.int]
  staticTypes := #[.int, .int, (.object "java/lang/Class"), (.array .char), (.array .byte), (.array .byte), .int, .int, .long]
  resolved := Array.replicate 453 none
  statics := none }

def pool10 : Array CpInfo := pool [(2, .class_ 4), (1, u "java/lang/Object"), (0, u "<init>"), (0, u "()V"), (0, .class_ 8), (0, u "java/lang/Integer"), (7, .class_ 18), (1, u "java/lang/Integer$IntegerCache"), (0, u "$assertionsDisabled"), (0, u "Z"), (26, u "high"), (0, u "I"), (8, u "archivedCache"), (0, u "[Ljava/lang/Integer;"), (12, u "cache"), (0, u "low")] 27

def k10m0 : Method := { name := "<init>", desc := "()V", sig := { parameters := [], returnType := none }, accessFlags := 2, code := none }
/-- java/lang/Integer$IntegerCache -/
def k10 : Class := { plain "java/lang/Integer$IntegerCache" (some 0) with
  accessFlags := 48
  interfaces := #[]
  cf := some (fileOf pool10 16 #[.nestHost 7] #[{ accessFlags := 2, nameIndex := 5, descriptorIndex := 6, attributes := #[] }] 48 2 #[] #[{ accessFlags := 24, nameIndex := 72, descriptorIndex := 48, attributes := #[] }, { accessFlags := 24, nameIndex := 47, descriptorIndex := 48, attributes := #[] }, { accessFlags := 24, nameIndex := 71, descriptorIndex := 58, attributes := #[] }, { accessFlags := 8, nameIndex := 57, descriptorIndex := 58, attributes := #[] }, { accessFlags := 4120, nameIndex := 19, descriptorIndex := 20, attributes := #[] }])
  fields := #[{ name := "low", type := .int, accessFlags := 24, slot := 0, constantValue := 0 }, { name := "high", type := .int, accessFlags := 24, slot := 1, constantValue := 0 }, { name := "cache", type := (.array (.object "java/lang/Integer")), accessFlags := 24, slot := 2, constantValue := 0 }, { name := "archivedCache", type := (.array (.object "java/lang/Integer")), accessFlags := 8, slot := 3, constantValue := 0 }, { name := "$assertionsDisabled", type := .boolean, accessFlags := 4120, slot := 4, constantValue := 0 }]
  methods := #[k10m0]
  instanceTypes := #[]
  staticTypes := #[.int, .int, (.array (.object "java/lang/Integer")), (.array (.object "java/lang/Integer")), .boolean]
  resolved := Array.replicate 100 none
  statics := some 0 }

def pool11 : Array CpInfo := pool [(2, .class_ 4), (1, u "java/lang/Enum"), (0, u "name"), (0, u "Ljava/lang/String;"), (2, u "ordinal"), (0, u "I"), (1, .class_ 14), (1, u "java/lang/Object"), (4, u "hash"), (86, .class_ 108), (1, u "java/lang/Enum$EnumDesc"), (2, .class_ 112), (0, u "java/lang/constant/Constable"), (0, .class_ 114), (0, u "java/lang/Comparable"), (0, .class_ 116), (0, u "java/io/Serializable")] 87

/-- java/lang/Enum -/
def k11 : Class := { plain "java/lang/Enum" (some 0) with
  accessFlags := 1057
  interfaces := #[7, 6, 4]
  cf := some (fileOf pool11 2 #[.nestMembers #[106]] #[] 1057 12 #[111, 113, 115] #[{ accessFlags := 18, nameIndex := 5, descriptorIndex := 6, attributes := #[] }, { accessFlags := 18, nameIndex := 9, descriptorIndex := 10, attributes := #[] }, { accessFlags := 2, nameIndex := 19, descriptorIndex := 10, attributes := #[] }])
  fields := #[{ name := "name", type := (.object "java/lang/String"), accessFlags := 18, slot := 0, constantValue := 0 }, { name := "ordinal", type := .int, accessFlags := 18, slot := 1, constantValue := 0 }, { name := "hash", type := .int, accessFlags := 2, slot := 2, constantValue := 0 }]
  methods := #[]
  instanceTypes := #[(.object "java/lang/String"), .int, .int]
  staticTypes := #[]
  resolved := Array.replicate 204 none
  statics := none }

def pool12 : Array CpInfo := pool [(1, .class_ 2), (0, u "com/example/roomwire/roomwire/core/Status"), (2, u "OPEN"), (0, u "Lcom/example/roomwire/roomwire/core/Status;"), (2, u "CLOSED"), (2, u "$VALUES"), (0, u "[Lcom/example/roomwire/roomwire/core/Status;"), (6, .class_ 22), (1, u "java/lang/Enum"), (8, u "label"), (0, u "Ljava/lang/String;")] 26

/-- com/example/roomwire/roomwire/core/Status -/
def k12 : Class := { plain "com/example/roomwire/roomwire/core/Status" (some 11) with
  accessFlags := 16433
  interfaces := #[]
  cf := some (fileOf pool12 1 #[] #[] 16433 20 #[] #[{ accessFlags := 16409, nameIndex := 5, descriptorIndex := 6, attributes := #[] }, { accessFlags := 16409, nameIndex := 9, descriptorIndex := 6, attributes := #[] }, { accessFlags := 18, nameIndex := 31, descriptorIndex := 32, attributes := #[] }, { accessFlags := 4122, nameIndex := 12, descriptorIndex := 13, attributes := #[] }])
  fields := #[{ name := "OPEN", type := (.object "com/example/roomwire/roomwire/core/Status"), accessFlags := 16409, slot := 0, constantValue := 0 }, { name := "CLOSED", type := (.object "com/example/roomwire/roomwire/core/Status"), accessFlags := 16409, slot := 1, constantValue := 0 }, { name := "label", type := (.object "java/lang/String"), accessFlags := 18, slot := 3, constantValue := 0 }, { name := "$VALUES", type := (.array (.object "com/example/roomwire/roomwire/core/Status")), accessFlags := 4122, slot := 2, constantValue := 0 }]
  methods := #[]
  instanceTypes := #[(.object "java/lang/String"), .int, .int, (.object "java/lang/String")]
  staticTypes := #[(.object "com/example/roomwire/roomwire/core/Status"), (.object "com/example/roomwire/roomwire/core/Status"), (.array (.object "com/example/roomwire/roomwire/core/Status"))]
  resolved := Array.replicate 59 none
  statics := some 1 }

def pool13 : Array CpInfo := pool [(1, u "java/lang/Cloneable"), (0, .class_ 1), (0, u "java/lang/Object"), (0, .class_ 3)] 3

/-- java/lang/Cloneable -/
def k13 : Class := { plain "java/lang/Cloneable" (some 0) with
  accessFlags := 1537
  interfaces := #[]
  cf := some (fileOf pool13 2 #[] #[] 1537 4 #[] #[])
  fields := #[]
  methods := #[]
  instanceTypes := #[]
  staticTypes := #[]
  resolved := Array.replicate 8 none
  statics := none }

/-- the primitive byte -/
def k14 : Class := { plain "byte" none with kind := .primitive 'B', accessFlags := 0x411 }
/-- [B -/
def k15 : Class := { plain "[B" (some 0) with kind := .array 14 .byte, interfaces := #[13, 4], accessFlags := 1041 }

/-- the primitive int -/
def k16 : Class := { plain "int" none with kind := .primitive 'I', accessFlags := 0x411 }
/-- [I -/
def k17 : Class := { plain "[I" (some 0) with kind := .array 16 .int, interfaces := #[13, 4], accessFlags := 1041 }

/-- [Ljava/lang/Integer; -/
def k18 : Class := { plain "[Ljava/lang/Integer;" (some 0) with kind := .array 9 (.object "java/lang/Integer"), interfaces := #[13, 4], accessFlags := 1041 }

def heap : Heap := #[{ cls := 10, slots := #[.int 0, .int 127, .ref 2, .null, .int 0], vm := .statics 10 },
  { cls := 12, slots := #[.ref 3, .ref 4, .null], vm := .statics 12 },
  { cls := 18, slots := #[.ref 5, .ref 6, .ref 7, .ref 8, .ref 9, .ref 10, .ref 11, .ref 12, .ref 13, .ref 14, .ref 15, .ref 16, .ref 17, .ref 18, .ref 19, .ref 20, .ref 21, .ref 22, .ref 23, .ref 24, .ref 25, .ref 26, .ref 27, .ref 28, .ref 29, .ref 30, .ref 31, .ref 32, .ref 33, .ref 34, .ref 35, .ref 36, .ref 37, .ref 38, .ref 39, .ref 40, .ref 41, .ref 42, .ref 43, .ref 44, .ref 45, .ref 46, .ref 47, .ref 48, .ref 49, .ref 50, .ref 51, .ref 52, .ref 53, .ref 54, .ref 55, .ref 56, .ref 57, .ref 58, .ref 59, .ref 60, .ref 61, .ref 62, .ref 63, .ref 64, .ref 65, .ref 66, .ref 67, .ref 68, .ref 69, .ref 70, .ref 71, .ref 72, .ref 73, .ref 74, .ref 75, .ref 76, .ref 77, .ref 78, .ref 79, .ref 80, .ref 81, .ref 82, .ref 83, .ref 84, .ref 85, .ref 86, .ref 87, .ref 88, .ref 89, .ref 90, .ref 91, .ref 92, .ref 93, .ref 94, .ref 95, .ref 96, .ref 97, .ref 98, .ref 99, .ref 100, .ref 101, .ref 102, .ref 103, .ref 104, .ref 105, .ref 106, .ref 107, .ref 108, .ref 109, .ref 110, .ref 111, .ref 112, .ref 113, .ref 114, .ref 115, .ref 116, .ref 117, .ref 118, .ref 119, .ref 120, .ref 121, .ref 122, .ref 123, .ref 124, .ref 125, .ref 126, .ref 127, .ref 128, .ref 129, .ref 130, .ref 131, .ref 132, .ref 133, .ref 134, .ref 135, .ref 136, .ref 137, .ref 138, .ref 139, .ref 140, .ref 141, .ref 142, .ref 143, .ref 144, .ref 145, .ref 146, .ref 147, .ref 148, .ref 149, .ref 150, .ref 151, .ref 152, .ref 153, .ref 154, .ref 155, .ref 156, .ref 157, .ref 158, .ref 159, .ref 160, .ref 161, .ref 162, .ref 163, .ref 164, .ref 165, .ref 166, .ref 167, .ref 168, .ref 169, .ref 170, .ref 171, .ref 172, .ref 173, .ref 174, .ref 175, .ref 176, .ref 177, .ref 178, .ref 179, .ref 180, .ref 181, .ref 182, .ref 183, .ref 184, .ref 185, .ref 186, .ref 187, .ref 188, .ref 189, .ref 190, .ref 191, .ref 192, .ref 193, .ref 194, .ref 195, .ref 196, .ref 197, .ref 198, .ref 199, .ref 200, .ref 201, .ref 202, .ref 203, .ref 204, .ref 205, .ref 206, .ref 207, .ref 208, .ref 209, .ref 210, .ref 211, .ref 212, .ref 213, .ref 214, .ref 215, .ref 216, .ref 217, .ref 218, .ref 219, .ref 220, .ref 221, .ref 222, .ref 223, .ref 224, .ref 225, .ref 226, .ref 227, .ref 228, .ref 229, .ref 230, .ref 231, .ref 232, .ref 233, .ref 234, .ref 235, .ref 236, .ref 237, .ref 238, .ref 239, .ref 240, .ref 241, .ref 242, .ref 243, .ref 244, .ref 245, .ref 246, .ref 247, .ref 248, .ref 249, .ref 250, .ref 251, .ref 252, .ref 253, .ref 254, .ref 255, .ref 256, .ref 257, .ref 258, .ref 259, .ref 260], vm := .none },
  { cls := 12, slots := #[.null, .int 0, .int 0, .null], vm := .none },
  { cls := 12, slots := #[.null, .int 0, .int 0, .null], vm := .none },
  { cls := 9, slots := #[.int (-128)], vm := .none },
  { cls := 9, slots := #[.int (-127)], vm := .none },
  { cls := 9, slots := #[.int (-126)], vm := .none },
  { cls := 9, slots := #[.int (-125)], vm := .none },
  { cls := 9, slots := #[.int (-124)], vm := .none },
  { cls := 9, slots := #[.int (-123)], vm := .none },
  { cls := 9, slots := #[.int (-122)], vm := .none },
  { cls := 9, slots := #[.int (-121)], vm := .none },
  { cls := 9, slots := #[.int (-120)], vm := .none },
  { cls := 9, slots := #[.int (-119)], vm := .none },
  { cls := 9, slots := #[.int (-118)], vm := .none },
  { cls := 9, slots := #[.int (-117)], vm := .none },
  { cls := 9, slots := #[.int (-116)], vm := .none },
  { cls := 9, slots := #[.int (-115)], vm := .none },
  { cls := 9, slots := #[.int (-114)], vm := .none },
  { cls := 9, slots := #[.int (-113)], vm := .none },
  { cls := 9, slots := #[.int (-112)], vm := .none },
  { cls := 9, slots := #[.int (-111)], vm := .none },
  { cls := 9, slots := #[.int (-110)], vm := .none },
  { cls := 9, slots := #[.int (-109)], vm := .none },
  { cls := 9, slots := #[.int (-108)], vm := .none },
  { cls := 9, slots := #[.int (-107)], vm := .none },
  { cls := 9, slots := #[.int (-106)], vm := .none },
  { cls := 9, slots := #[.int (-105)], vm := .none },
  { cls := 9, slots := #[.int (-104)], vm := .none },
  { cls := 9, slots := #[.int (-103)], vm := .none },
  { cls := 9, slots := #[.int (-102)], vm := .none },
  { cls := 9, slots := #[.int (-101)], vm := .none },
  { cls := 9, slots := #[.int (-100)], vm := .none },
  { cls := 9, slots := #[.int (-99)], vm := .none },
  { cls := 9, slots := #[.int (-98)], vm := .none },
  { cls := 9, slots := #[.int (-97)], vm := .none },
  { cls := 9, slots := #[.int (-96)], vm := .none },
  { cls := 9, slots := #[.int (-95)], vm := .none },
  { cls := 9, slots := #[.int (-94)], vm := .none },
  { cls := 9, slots := #[.int (-93)], vm := .none },
  { cls := 9, slots := #[.int (-92)], vm := .none },
  { cls := 9, slots := #[.int (-91)], vm := .none },
  { cls := 9, slots := #[.int (-90)], vm := .none },
  { cls := 9, slots := #[.int (-89)], vm := .none },
  { cls := 9, slots := #[.int (-88)], vm := .none },
  { cls := 9, slots := #[.int (-87)], vm := .none },
  { cls := 9, slots := #[.int (-86)], vm := .none },
  { cls := 9, slots := #[.int (-85)], vm := .none },
  { cls := 9, slots := #[.int (-84)], vm := .none },
  { cls := 9, slots := #[.int (-83)], vm := .none },
  { cls := 9, slots := #[.int (-82)], vm := .none },
  { cls := 9, slots := #[.int (-81)], vm := .none },
  { cls := 9, slots := #[.int (-80)], vm := .none },
  { cls := 9, slots := #[.int (-79)], vm := .none },
  { cls := 9, slots := #[.int (-78)], vm := .none },
  { cls := 9, slots := #[.int (-77)], vm := .none },
  { cls := 9, slots := #[.int (-76)], vm := .none },
  { cls := 9, slots := #[.int (-75)], vm := .none },
  { cls := 9, slots := #[.int (-74)], vm := .none },
  { cls := 9, slots := #[.int (-73)], vm := .none },
  { cls := 9, slots := #[.int (-72)], vm := .none },
  { cls := 9, slots := #[.int (-71)], vm := .none },
  { cls := 9, slots := #[.int (-70)], vm := .none },
  { cls := 9, slots := #[.int (-69)], vm := .none },
  { cls := 9, slots := #[.int (-68)], vm := .none },
  { cls := 9, slots := #[.int (-67)], vm := .none },
  { cls := 9, slots := #[.int (-66)], vm := .none },
  { cls := 9, slots := #[.int (-65)], vm := .none },
  { cls := 9, slots := #[.int (-64)], vm := .none },
  { cls := 9, slots := #[.int (-63)], vm := .none },
  { cls := 9, slots := #[.int (-62)], vm := .none },
  { cls := 9, slots := #[.int (-61)], vm := .none },
  { cls := 9, slots := #[.int (-60)], vm := .none },
  { cls := 9, slots := #[.int (-59)], vm := .none },
  { cls := 9, slots := #[.int (-58)], vm := .none },
  { cls := 9, slots := #[.int (-57)], vm := .none },
  { cls := 9, slots := #[.int (-56)], vm := .none },
  { cls := 9, slots := #[.int (-55)], vm := .none },
  { cls := 9, slots := #[.int (-54)], vm := .none },
  { cls := 9, slots := #[.int (-53)], vm := .none },
  { cls := 9, slots := #[.int (-52)], vm := .none },
  { cls := 9, slots := #[.int (-51)], vm := .none },
  { cls := 9, slots := #[.int (-50)], vm := .none },
  { cls := 9, slots := #[.int (-49)], vm := .none },
  { cls := 9, slots := #[.int (-48)], vm := .none },
  { cls := 9, slots := #[.int (-47)], vm := .none },
  { cls := 9, slots := #[.int (-46)], vm := .none },
  { cls := 9, slots := #[.int (-45)], vm := .none },
  { cls := 9, slots := #[.int (-44)], vm := .none },
  { cls := 9, slots := #[.int (-43)], vm := .none },
  { cls := 9, slots := #[.int (-42)], vm := .none },
  { cls := 9, slots := #[.int (-41)], vm := .none },
  { cls := 9, slots := #[.int (-40)], vm := .none },
  { cls := 9, slots := #[.int (-39)], vm := .none },
  { cls := 9, slots := #[.int (-38)], vm := .none },
  { cls := 9, slots := #[.int (-37)], vm := .none },
  { cls := 9, slots := #[.int (-36)], vm := .none },
  { cls := 9, slots := #[.int (-35)], vm := .none },
  { cls := 9, slots := #[.int (-34)], vm := .none },
  { cls := 9, slots := #[.int (-33)], vm := .none },
  { cls := 9, slots := #[.int (-32)], vm := .none },
  { cls := 9, slots := #[.int (-31)], vm := .none },
  { cls := 9, slots := #[.int (-30)], vm := .none },
  { cls := 9, slots := #[.int (-29)], vm := .none },
  { cls := 9, slots := #[.int (-28)], vm := .none },
  { cls := 9, slots := #[.int (-27)], vm := .none },
  { cls := 9, slots := #[.int (-26)], vm := .none },
  { cls := 9, slots := #[.int (-25)], vm := .none },
  { cls := 9, slots := #[.int (-24)], vm := .none },
  { cls := 9, slots := #[.int (-23)], vm := .none },
  { cls := 9, slots := #[.int (-22)], vm := .none },
  { cls := 9, slots := #[.int (-21)], vm := .none },
  { cls := 9, slots := #[.int (-20)], vm := .none },
  { cls := 9, slots := #[.int (-19)], vm := .none },
  { cls := 9, slots := #[.int (-18)], vm := .none },
  { cls := 9, slots := #[.int (-17)], vm := .none },
  { cls := 9, slots := #[.int (-16)], vm := .none },
  { cls := 9, slots := #[.int (-15)], vm := .none },
  { cls := 9, slots := #[.int (-14)], vm := .none },
  { cls := 9, slots := #[.int (-13)], vm := .none },
  { cls := 9, slots := #[.int (-12)], vm := .none },
  { cls := 9, slots := #[.int (-11)], vm := .none },
  { cls := 9, slots := #[.int (-10)], vm := .none },
  { cls := 9, slots := #[.int (-9)], vm := .none },
  { cls := 9, slots := #[.int (-8)], vm := .none },
  { cls := 9, slots := #[.int (-7)], vm := .none },
  { cls := 9, slots := #[.int (-6)], vm := .none },
  { cls := 9, slots := #[.int (-5)], vm := .none },
  { cls := 9, slots := #[.int (-4)], vm := .none },
  { cls := 9, slots := #[.int (-3)], vm := .none },
  { cls := 9, slots := #[.int (-2)], vm := .none },
  { cls := 9, slots := #[.int (-1)], vm := .none },
  { cls := 9, slots := #[.int 0], vm := .none },
  { cls := 9, slots := #[.int 1], vm := .none },
  { cls := 9, slots := #[.int 2], vm := .none },
  { cls := 9, slots := #[.int 3], vm := .none },
  { cls := 9, slots := #[.int 4], vm := .none },
  { cls := 9, slots := #[.int 5], vm := .none },
  { cls := 9, slots := #[.int 6], vm := .none },
  { cls := 9, slots := #[.int 7], vm := .none },
  { cls := 9, slots := #[.int 8], vm := .none },
  { cls := 9, slots := #[.int 9], vm := .none },
  { cls := 9, slots := #[.int 10], vm := .none },
  { cls := 9, slots := #[.int 11], vm := .none },
  { cls := 9, slots := #[.int 12], vm := .none },
  { cls := 9, slots := #[.int 13], vm := .none },
  { cls := 9, slots := #[.int 14], vm := .none },
  { cls := 9, slots := #[.int 15], vm := .none },
  { cls := 9, slots := #[.int 16], vm := .none },
  { cls := 9, slots := #[.int 17], vm := .none },
  { cls := 9, slots := #[.int 18], vm := .none },
  { cls := 9, slots := #[.int 19], vm := .none },
  { cls := 9, slots := #[.int 20], vm := .none },
  { cls := 9, slots := #[.int 21], vm := .none },
  { cls := 9, slots := #[.int 22], vm := .none },
  { cls := 9, slots := #[.int 23], vm := .none },
  { cls := 9, slots := #[.int 24], vm := .none },
  { cls := 9, slots := #[.int 25], vm := .none },
  { cls := 9, slots := #[.int 26], vm := .none },
  { cls := 9, slots := #[.int 27], vm := .none },
  { cls := 9, slots := #[.int 28], vm := .none },
  { cls := 9, slots := #[.int 29], vm := .none },
  { cls := 9, slots := #[.int 30], vm := .none },
  { cls := 9, slots := #[.int 31], vm := .none },
  { cls := 9, slots := #[.int 32], vm := .none },
  { cls := 9, slots := #[.int 33], vm := .none },
  { cls := 9, slots := #[.int 34], vm := .none },
  { cls := 9, slots := #[.int 35], vm := .none },
  { cls := 9, slots := #[.int 36], vm := .none },
  { cls := 9, slots := #[.int 37], vm := .none },
  { cls := 9, slots := #[.int 38], vm := .none },
  { cls := 9, slots := #[.int 39], vm := .none },
  { cls := 9, slots := #[.int 40], vm := .none },
  { cls := 9, slots := #[.int 41], vm := .none },
  { cls := 9, slots := #[.int 42], vm := .none },
  { cls := 9, slots := #[.int 43], vm := .none },
  { cls := 9, slots := #[.int 44], vm := .none },
  { cls := 9, slots := #[.int 45], vm := .none },
  { cls := 9, slots := #[.int 46], vm := .none },
  { cls := 9, slots := #[.int 47], vm := .none },
  { cls := 9, slots := #[.int 48], vm := .none },
  { cls := 9, slots := #[.int 49], vm := .none },
  { cls := 9, slots := #[.int 50], vm := .none },
  { cls := 9, slots := #[.int 51], vm := .none },
  { cls := 9, slots := #[.int 52], vm := .none },
  { cls := 9, slots := #[.int 53], vm := .none },
  { cls := 9, slots := #[.int 54], vm := .none },
  { cls := 9, slots := #[.int 55], vm := .none },
  { cls := 9, slots := #[.int 56], vm := .none },
  { cls := 9, slots := #[.int 57], vm := .none },
  { cls := 9, slots := #[.int 58], vm := .none },
  { cls := 9, slots := #[.int 59], vm := .none },
  { cls := 9, slots := #[.int 60], vm := .none },
  { cls := 9, slots := #[.int 61], vm := .none },
  { cls := 9, slots := #[.int 62], vm := .none },
  { cls := 9, slots := #[.int 63], vm := .none },
  { cls := 9, slots := #[.int 64], vm := .none },
  { cls := 9, slots := #[.int 65], vm := .none },
  { cls := 9, slots := #[.int 66], vm := .none },
  { cls := 9, slots := #[.int 67], vm := .none },
  { cls := 9, slots := #[.int 68], vm := .none },
  { cls := 9, slots := #[.int 69], vm := .none },
  { cls := 9, slots := #[.int 70], vm := .none },
  { cls := 9, slots := #[.int 71], vm := .none },
  { cls := 9, slots := #[.int 72], vm := .none },
  { cls := 9, slots := #[.int 73], vm := .none },
  { cls := 9, slots := #[.int 74], vm := .none },
  { cls := 9, slots := #[.int 75], vm := .none },
  { cls := 9, slots := #[.int 76], vm := .none },
  { cls := 9, slots := #[.int 77], vm := .none },
  { cls := 9, slots := #[.int 78], vm := .none },
  { cls := 9, slots := #[.int 79], vm := .none },
  { cls := 9, slots := #[.int 80], vm := .none },
  { cls := 9, slots := #[.int 81], vm := .none },
  { cls := 9, slots := #[.int 82], vm := .none },
  { cls := 9, slots := #[.int 83], vm := .none },
  { cls := 9, slots := #[.int 84], vm := .none },
  { cls := 9, slots := #[.int 85], vm := .none },
  { cls := 9, slots := #[.int 86], vm := .none },
  { cls := 9, slots := #[.int 87], vm := .none },
  { cls := 9, slots := #[.int 88], vm := .none },
  { cls := 9, slots := #[.int 89], vm := .none },
  { cls := 9, slots := #[.int 90], vm := .none },
  { cls := 9, slots := #[.int 91], vm := .none },
  { cls := 9, slots := #[.int 92], vm := .none },
  { cls := 9, slots := #[.int 93], vm := .none },
  { cls := 9, slots := #[.int 94], vm := .none },
  { cls := 9, slots := #[.int 95], vm := .none },
  { cls := 9, slots := #[.int 96], vm := .none },
  { cls := 9, slots := #[.int 97], vm := .none },
  { cls := 9, slots := #[.int 98], vm := .none },
  { cls := 9, slots := #[.int 99], vm := .none },
  { cls := 9, slots := #[.int 100], vm := .none },
  { cls := 9, slots := #[.int 101], vm := .none },
  { cls := 9, slots := #[.int 102], vm := .none },
  { cls := 9, slots := #[.int 103], vm := .none },
  { cls := 9, slots := #[.int 104], vm := .none },
  { cls := 9, slots := #[.int 105], vm := .none },
  { cls := 9, slots := #[.int 106], vm := .none },
  { cls := 9, slots := #[.int 107], vm := .none },
  { cls := 9, slots := #[.int 108], vm := .none },
  { cls := 9, slots := #[.int 109], vm := .none },
  { cls := 9, slots := #[.int 110], vm := .none },
  { cls := 9, slots := #[.int 111], vm := .none },
  { cls := 9, slots := #[.int 112], vm := .none },
  { cls := 9, slots := #[.int 113], vm := .none },
  { cls := 9, slots := #[.int 114], vm := .none },
  { cls := 9, slots := #[.int 115], vm := .none },
  { cls := 9, slots := #[.int 116], vm := .none },
  { cls := 9, slots := #[.int 117], vm := .none },
  { cls := 9, slots := #[.int 118], vm := .none },
  { cls := 9, slots := #[.int 119], vm := .none },
  { cls := 9, slots := #[.int 120], vm := .none },
  { cls := 9, slots := #[.int 121], vm := .none },
  { cls := 9, slots := #[.int 122], vm := .none },
  { cls := 9, slots := #[.int 123], vm := .none },
  { cls := 9, slots := #[.int 124], vm := .none },
  { cls := 9, slots := #[.int 125], vm := .none },
  { cls := 9, slots := #[.int 126], vm := .none },
  { cls := 9, slots := #[.int 127], vm := .none }]
def classes : Array Class := #[k0, k1, k2, k3, k4, k5, k6, k7, k8, k9, k10, k11, k12, k13, k14, k15, k16, k17, k18]
def interned : List (Array UInt16 × Addr) := []
def slotsUsed : Nat := 528
def theMethod : MethodId := ⟨1, 1⟩
def args0 : Array Value := #[.long 5, .long 6, .long 7, .int 8]
def aboutOver (below : List Frame) : State where
  vm := { classes := classes, interned := interned.toArray }
  heap := heap
  slotsUsed := slotsUsed
  threads := #[{ frames := .invoking theMethod args0 :: below }]
def below0 : List Frame := [.native { method := ⟨0, 0⟩, args := #[] }]
def about1 : State := aboutOver below0
def p0 : Program := .bare "" "" ""
def e0 : Env := launch0.env 0 0 0
theorem w_frames : about1.frames = Frame.invoking theMethod args0 :: below0 := rfl
set_option maxRecDepth 65536 in
theorem w_args : argsFit about1.vm theMethod args0 = true := by decide +kernel
set_option maxRecDepth 65536 in
theorem w_heap : heapFits about1 = true := by decide +kernel
set_option maxRecDepth 65536 in
theorem w_runnable : about1.curStatus? = some .runnable := by decide +kernel
set_option maxRecDepth 65536 in
theorem w_alone : about1.alone = true := by decide +kernel
set_option maxRecDepth 65536 in
theorem w_named : about1.methodNamed? x = some theMethod := by decide +kernel
set_option maxRecDepth 65536 in
theorem w_hears : about1.hears theMethod below0 = true := by decide +kernel
set_option maxRecDepth 65536 in
theorem w_ripe : about1.ripe theMethod args0 below0 = true := by decide +kernel
theorem w_running : about1.status = .running := rfl
set_option maxRecDepth 65536 in
theorem w_room : about1.hasRoom e0.platform room_1 = true :=
  launch0.hasRoom_least _ room_1 (by decide +kernel) (by decide +kernel) (by decide +kernel) (by decide +kernel) (by decide +kernel) (by decide +kernel)
theorem allAtoms_all (ts : List Jvm.Cond) (a : Array Jvm.Value) (st : Jvm.State) : (allAtoms ts).before a st = ts.all (fun c => c.before a st) := by
  induction ts with
  | nil => rfl
  | cons c t ih =>
    show (Jvm.Cond.and c (allAtoms t)).before a st = _
    rw [Jvm.Cond.before_and, ih, List.all_cons]
def words1 : List Jvm.Cond := Jvm.Cond.code x code maxLocals ret :: tables_1
/-- a 'code' word, met by the world's own term for the bytes: nothing is compared byte by byte -/
theorem code_word {y : MethodName} {bytes : ByteArray} {mx : Nat} {rt : Option FieldType} {a : Array Value} {s : State} {m : MethodId} {meth : Method} {c : Code} (h1 : s.methodNamed? y = some m) (h2 : s.vm.method? m = some meth) (h3 : meth.code = some c) (h4 : c.code = bytes)
    (h5 : (c.maxLocals == mx && c.exceptionTable.isEmpty && decide (c.maxStack ≤ mostOperands) && decide (meth.sig.returnType = rt) && !meth.locks && decide (parseMethodDescriptor y.desc = some meth.sig)) = true) : (Jvm.Cond.code y bytes mx rt).before a s = true := by
  simp only [Bool.and_eq_true, beq_iff_eq, Bool.not_eq_true', decide_eq_true_eq] at h5
  obtain ⟨⟨⟨⟨⟨g1, g2⟩, g3⟩, g4⟩, g5⟩, g6⟩ := h5
  simp [Cond.before, Cond.holds, Cond.value, h1, h2, h3, h4, g1, g2, g3, g4, g5, g6]
def isCode : Jvm.Cond → Bool
  | .code _ _ _ _ => true
  | _ => false
theorem all_split {L : List Jvm.Cond} {P : Jvm.Cond → Bool} (h1 : L.all (fun c => isCode c || P c) = true) (h2 : ∀ c ∈ L.filter isCode, P c = true) : L.all P = true := by
  refine List.all_eq_true.mpr fun c hc => ?_
  have h := List.all_eq_true.mp h1 c hc
  rcases Bool.eq_false_or_eq_true (isCode c) with hi | hi
  · exact h2 c (List.mem_filter.mpr ⟨hc, hi⟩)
  · simpa [hi] using h
set_option maxRecDepth 65536 in
theorem w_c0 : (Jvm.Cond.code x code maxLocals ret).before args0 about1 = true := code_word (m := ⟨1, 1⟩) (meth := k1m1) (c := k1c1) (by decide +kernel) rfl rfl rfl (by decide +kernel)
set_option maxRecDepth 65536 in
theorem w_c1 : (Jvm.Cond.code ({ cls := "com/example/roomwire/roomwire/core/NightStateOverlayPinLaw", name := "num", desc := "(III)Ljava/lang/Integer;" } : Jvm.MethodName) method_3_code (3 : Nat) (Option.some (Jvm.ClassFile.FieldType.object "java/lang/Integer"))).before args0 about1 = true := code_word (m := ⟨1, 2⟩) (meth := k1m2) (c := k1c2) (by decide +kernel) rfl rfl rfl (by decide +kernel)
set_option maxRecDepth 65536 in
theorem w_c2 : (Jvm.Cond.code ({ cls := "java/lang/Integer", name := "valueOf", desc := "(I)Ljava/lang/Integer;" } : Jvm.MethodName) jdk_33_method_22_code (1 : Nat) (Option.some (Jvm.ClassFile.FieldType.object "java/lang/Integer"))).before args0 about1 = true := code_word (m := ⟨9, 0⟩) (meth := k9m0) (c := k9c0) (by decide +kernel) rfl rfl rfl (by decide +kernel)
set_option maxRecDepth 65536 in
theorem w_c3 : (Jvm.Cond.code ({ cls := "com/example/roomwire/roomwire/core/NightStateOverlayPinLaw", name := "st", desc := "(II)Lcom/example/roomwire/roomwire/core/Status;" } : Jvm.MethodName) method_5_code (3 : Nat) (Option.some (Jvm.ClassFile.FieldType.object "com/example/roomwire/roomwire/core/Status"))).before args0 about1 = true := code_word (m := ⟨1, 4⟩) (meth := k1m4) (c := k1c4) (by decide +kernel) rfl rfl rfl (by decide +kernel)
set_option maxRecDepth 65536 in
theorem w_c4 : (Jvm.Cond.code ({ cls := "com/example/roomwire/roomwire/core/NightStateOverlayPinLaw", name := "code", desc := "(II)I" } : Jvm.MethodName) method_4_code (3 : Nat) (Option.some Jvm.ClassFile.FieldType.int)).before args0 about1 = true := code_word (m := ⟨1, 3⟩) (meth := k1m3) (c := k1c3) (by decide +kernel) rfl rfl rfl (by decide +kernel)
set_option maxRecDepth 65536 in
theorem w_c5 : (Jvm.Cond.code ({ cls := "java/lang/Integer", name := "<init>", desc := "(I)V" } : Jvm.MethodName) jdk_33_method_23_code (2 : Nat) (Option.none : Option Jvm.ClassFile.FieldType)).before args0 about1 = true := code_word (m := ⟨9, 1⟩) (meth := k9m1) (c := k9c1) (by decide +kernel) rfl rfl rfl (by decide +kernel)
set_option maxRecDepth 65536 in
theorem w_c6 : (Jvm.Cond.code ({ cls := "java/lang/Number", name := "<init>", desc := "()V" } : Jvm.MethodName) jdk_18_method_1_code (1 : Nat) (Option.none : Option Jvm.ClassFile.FieldType)).before args0 about1 = true := code_word (m := ⟨5, 0⟩) (meth := k5m0) (c := k5c0) (by decide +kernel) rfl rfl rfl (by decide +kernel)
set_option maxRecDepth 65536 in
theorem w_c7 : (Jvm.Cond.code ({ cls := "java/lang/Object", name := "<init>", desc := "()V" } : Jvm.MethodName) object_method_1_code (1 : Nat) (Option.none : Option Jvm.ClassFile.FieldType)).before args0 about1 = true := code_word (m := ⟨0, 0⟩) (meth := k0m0) (c := k0c0) (by decide +kernel) rfl rfl rfl (by decide +kernel)
set_option maxRecDepth 65536 in
theorem w_c8 : (Jvm.Cond.code ({ cls := "com/example/roomwire/roomwire/core/NightState", name := "<init>", desc := "(Ljava/lang/Integer;Lcom/example/roomwire/roomwire/core/Status;Lcom/example/roomwire/roomwire/core/Status;Lcom/example/roomwire/roomwire/core/Status;Ljava/lang/Integer;Ljava/lang/Integer;)V" } : Jvm.MethodName) prog_25_method_1_code (7 : Nat) (Option.none : Option Jvm.ClassFile.FieldType)).before args0 about1 = true := code_word (m := ⟨3, 0⟩) (meth := k3m0) (c := k3c0) (by decide +kernel) rfl rfl rfl (by decide +kernel)
set_option maxRecDepth 65536 in
theorem w_c9 : (Jvm.Cond.code ({ cls := "java/lang/Record", name := "<init>", desc := "()V" } : Jvm.MethodName) jdk_30_method_1_code (1 : Nat) (Option.none : Option Jvm.ClassFile.FieldType)).before args0 about1 = true := code_word (m := ⟨2, 0⟩) (meth := k2m0) (c := k2c0) (by decide +kernel) rfl rfl rfl (by decide +kernel)
set_option maxRecDepth 65536 in
theorem w_c10 : (Jvm.Cond.code ({ cls := "com/example/roomwire/roomwire/core/NightState", name := "overlay", desc := "(Lcom/example/roomwire/roomwire/core/NightState;)Lcom/example/roomwire/roomwire/core/NightState;" } : Jvm.MethodName) prog_25_method_2_code (2 : Nat) (Option.some (Jvm.ClassFile.FieldType.object "com/example/roomwire/roomwire/core/NightState"))).before args0 about1 = true := code_word (m := ⟨3, 1⟩) (meth := k3m1) (c := k3c1) (by decide +kernel) rfl rfl rfl (by decide +kernel)
set_option maxRecDepth 65536 in
theorem w_c11 : (Jvm.Cond.code ({ cls := "com/example/roomwire/roomwire/core/NightState", name := "pick", desc := "(Ljava/lang/Object;Ljava/lang/Object;)Ljava/lang/Object;" } : Jvm.MethodName) prog_25_method_4_code (2 : Nat) (Option.some (Jvm.ClassFile.FieldType.object "java/lang/Object"))).before args0 about1 = true := code_word (m := ⟨3, 2⟩) (meth := k3m2) (c := k3c2) (by decide +kernel) rfl rfl rfl (by decide +kernel)
set_option maxRecDepth 65536 in
theorem w_c12 : (Jvm.Cond.code ({ cls := "com/example/roomwire/roomwire/core/NightState", name := "bookingLimit", desc := "()Ljava/lang/Integer;" } : Jvm.MethodName) prog_25_method_11_code (1 : Nat) (Option.some (Jvm.ClassFile.FieldType.object "java/lang/Integer"))).before args0 about1 = true := code_word (m := ⟨3, 3⟩) (meth := k3m3) (c := k3c3) (by decide +kernel) rfl rfl rfl (by decide +kernel)
set_option maxRecDepth 65536 in
theorem w_c13 : (Jvm.Cond.code ({ cls := "com/example/roomwire/roomwire/core/NightStateOverlayPinLaw", name := "intIs", desc := "(Ljava/lang/Integer;IIIII)Z" } : Jvm.MethodName) method_6_code (6 : Nat) (Option.some Jvm.ClassFile.FieldType.boolean)).before args0 about1 = true := code_word (m := ⟨1, 5⟩) (meth := k1m5) (c := k1c5) (by decide +kernel) rfl rfl rfl (by decide +kernel)
set_option maxRecDepth 65536 in
theorem w_c14 : (Jvm.Cond.code ({ cls := "java/lang/Integer", name := "intValue", desc := "()I" } : Jvm.MethodName) jdk_33_method_27_code (1 : Nat) (Option.some Jvm.ClassFile.FieldType.int)).before args0 about1 = true := code_word (m := ⟨9, 2⟩) (meth := k9m2) (c := k9c2) (by decide +kernel) rfl rfl rfl (by decide +kernel)
set_option maxRecDepth 65536 in
theorem w_c15 : (Jvm.Cond.code ({ cls := "com/example/roomwire/roomwire/core/NightState", name := "master", desc := "()Lcom/example/roomwire/roomwire/core/Status;" } : Jvm.MethodName) prog_25_method_12_code (1 : Nat) (Option.some (Jvm.ClassFile.FieldType.object "com/example/roomwire/roomwire/core/Status"))).before args0 about1 = true := code_word (m := ⟨3, 4⟩) (meth := k3m4) (c := k3c4) (by decide +kernel) rfl rfl rfl (by decide +kernel)
set_option maxRecDepth 65536 in
theorem w_c16 : (Jvm.Cond.code ({ cls := "com/example/roomwire/roomwire/core/NightStateOverlayPinLaw", name := "statusIs", desc := "(Lcom/example/roomwire/roomwire/core/Status;III)Z" } : Jvm.MethodName) method_7_code (5 : Nat) (Option.some Jvm.ClassFile.FieldType.boolean)).before args0 about1 = true := code_word (m := ⟨1, 6⟩) (meth := k1m6) (c := k1c6) (by decide +kernel) rfl rfl rfl (by decide +kernel)
set_option maxRecDepth 65536 in
theorem w_c17 : (Jvm.Cond.code ({ cls := "com/example/roomwire/roomwire/core/NightState", name := "arrival", desc := "()Lcom/example/roomwire/roomwire/core/Status;" } : Jvm.MethodName) prog_25_method_13_code (1 : Nat) (Option.some (Jvm.ClassFile.FieldType.object "com/example/roomwire/roomwire/core/Status"))).before args0 about1 = true := code_word (m := ⟨3, 5⟩) (meth := k3m5) (c := k3c5) (by decide +kernel) rfl rfl rfl (by decide +kernel)
set_option maxRecDepth 65536 in
theorem w_c18 : (Jvm.Cond.code ({ cls := "com/example/roomwire/roomwire/core/NightState", name := "departure", desc := "()Lcom/example/roomwire/roomwire/core/Status;" } : Jvm.MethodName) prog_25_method_14_code (1 : Nat) (Option.some (Jvm.ClassFile.FieldType.object "com/example/roomwire/roomwire/core/Status"))).before args0 about1 = true := code_word (m := ⟨3, 6⟩) (meth := k3m6) (c := k3c6) (by decide +kernel) rfl rfl rfl (by decide +kernel)
set_option maxRecDepth 65536 in
theorem w_c19 : (Jvm.Cond.code ({ cls := "com/example/roomwire/roomwire/core/NightState", name := "minStay", desc := "()Ljava/lang/Integer;" } : Jvm.MethodName) prog_25_method_15_code (1 : Nat) (Option.some (Jvm.ClassFile.FieldType.object "java/lang/Integer"))).before args0 about1 = true := code_word (m := ⟨3, 7⟩) (meth := k3m7) (c := k3c7) (by decide +kernel) rfl rfl rfl (by decide +kernel)
set_option maxRecDepth 65536 in
theorem w_c20 : (Jvm.Cond.code ({ cls := "com/example/roomwire/roomwire/core/NightState", name := "maxStay", desc := "()Ljava/lang/Integer;" } : Jvm.MethodName) prog_25_method_16_code (1 : Nat) (Option.some (Jvm.ClassFile.FieldType.object "java/lang/Integer"))).before args0 about1 = true := code_word (m := ⟨3, 8⟩) (meth := k3m8) (c := k3c8) (by decide +kernel) rfl rfl rfl (by decide +kernel)
def codes1 : List Jvm.Cond := [Jvm.Cond.code x code maxLocals ret, Jvm.Cond.code ({ cls := "com/example/roomwire/roomwire/core/NightStateOverlayPinLaw", name := "num", desc := "(III)Ljava/lang/Integer;" } : Jvm.MethodName) method_3_code (3 : Nat) (Option.some (Jvm.ClassFile.FieldType.object "java/lang/Integer")), Jvm.Cond.code ({ cls := "java/lang/Integer", name := "valueOf", desc := "(I)Ljava/lang/Integer;" } : Jvm.MethodName) jdk_33_method_22_code (1 : Nat) (Option.some (Jvm.ClassFile.FieldType.object "java/lang/Integer")), Jvm.Cond.code ({ cls := "com/example/roomwire/roomwire/core/NightStateOverlayPinLaw", name := "st", desc := "(II)Lcom/example/roomwire/roomwire/core/Status;" } : Jvm.MethodName) method_5_code (3 : Nat) (Option.some (Jvm.ClassFile.FieldType.object "com/example/roomwire/roomwire/core/Status")), Jvm.Cond.code ({ cls := "com/example/roomwire/roomwire/core/NightStateOverlayPinLaw", name := "code", desc := "(II)I" } : Jvm.MethodName) method_4_code (3 : Nat) (Option.some Jvm.ClassFile.FieldType.int), Jvm.Cond.code ({ cls := "java/lang/Integer", name := "<init>", desc := "(I)V" } : Jvm.MethodName) jdk_33_method_23_code (2 : Nat) (Option.none : Option Jvm.ClassFile.FieldType), Jvm.Cond.code ({ cls := "java/lang/Number", name := "<init>", desc := "()V" } : Jvm.MethodName) jdk_18_method_1_code (1 : Nat) (Option.none : Option Jvm.ClassFile.FieldType), Jvm.Cond.code ({ cls := "java/lang/Object", name := "<init>", desc := "()V" } : Jvm.MethodName) object_method_1_code (1 : Nat) (Option.none : Option Jvm.ClassFile.FieldType), Jvm.Cond.code ({ cls := "com/example/roomwire/roomwire/core/NightState", name := "<init>", desc := "(Ljava/lang/Integer;Lcom/example/roomwire/roomwire/core/Status;Lcom/example/roomwire/roomwire/core/Status;Lcom/example/roomwire/roomwire/core/Status;Ljava/lang/Integer;Ljava/lang/Integer;)V" } : Jvm.MethodName) prog_25_method_1_code (7 : Nat) (Option.none : Option Jvm.ClassFile.FieldType), Jvm.Cond.code ({ cls := "java/lang/Record", name := "<init>", desc := "()V" } : Jvm.MethodName) jdk_30_method_1_code (1 : Nat) (Option.none : Option Jvm.ClassFile.FieldType), Jvm.Cond.code ({ cls := "com/example/roomwire/roomwire/core/NightState", name := "overlay", desc := "(Lcom/example/roomwire/roomwire/core/NightState;)Lcom/example/roomwire/roomwire/core/NightState;" } : Jvm.MethodName) prog_25_method_2_code (2 : Nat) (Option.some (Jvm.ClassFile.FieldType.object "com/example/roomwire/roomwire/core/NightState")), Jvm.Cond.code ({ cls := "com/example/roomwire/roomwire/core/NightState", name := "pick", desc := "(Ljava/lang/Object;Ljava/lang/Object;)Ljava/lang/Object;" } : Jvm.MethodName) prog_25_method_4_code (2 : Nat) (Option.some (Jvm.ClassFile.FieldType.object "java/lang/Object")), Jvm.Cond.code ({ cls := "com/example/roomwire/roomwire/core/NightState", name := "bookingLimit", desc := "()Ljava/lang/Integer;" } : Jvm.MethodName) prog_25_method_11_code (1 : Nat) (Option.some (Jvm.ClassFile.FieldType.object "java/lang/Integer")), Jvm.Cond.code ({ cls := "com/example/roomwire/roomwire/core/NightStateOverlayPinLaw", name := "intIs", desc := "(Ljava/lang/Integer;IIIII)Z" } : Jvm.MethodName) method_6_code (6 : Nat) (Option.some Jvm.ClassFile.FieldType.boolean), Jvm.Cond.code ({ cls := "java/lang/Integer", name := "intValue", desc := "()I" } : Jvm.MethodName) jdk_33_method_27_code (1 : Nat) (Option.some Jvm.ClassFile.FieldType.int), Jvm.Cond.code ({ cls := "com/example/roomwire/roomwire/core/NightState", name := "master", desc := "()Lcom/example/roomwire/roomwire/core/Status;" } : Jvm.MethodName) prog_25_method_12_code (1 : Nat) (Option.some (Jvm.ClassFile.FieldType.object "com/example/roomwire/roomwire/core/Status")), Jvm.Cond.code ({ cls := "com/example/roomwire/roomwire/core/NightStateOverlayPinLaw", name := "statusIs", desc := "(Lcom/example/roomwire/roomwire/core/Status;III)Z" } : Jvm.MethodName) method_7_code (5 : Nat) (Option.some Jvm.ClassFile.FieldType.boolean), Jvm.Cond.code ({ cls := "com/example/roomwire/roomwire/core/NightState", name := "arrival", desc := "()Lcom/example/roomwire/roomwire/core/Status;" } : Jvm.MethodName) prog_25_method_13_code (1 : Nat) (Option.some (Jvm.ClassFile.FieldType.object "com/example/roomwire/roomwire/core/Status")), Jvm.Cond.code ({ cls := "com/example/roomwire/roomwire/core/NightState", name := "departure", desc := "()Lcom/example/roomwire/roomwire/core/Status;" } : Jvm.MethodName) prog_25_method_14_code (1 : Nat) (Option.some (Jvm.ClassFile.FieldType.object "com/example/roomwire/roomwire/core/Status")), Jvm.Cond.code ({ cls := "com/example/roomwire/roomwire/core/NightState", name := "minStay", desc := "()Ljava/lang/Integer;" } : Jvm.MethodName) prog_25_method_15_code (1 : Nat) (Option.some (Jvm.ClassFile.FieldType.object "java/lang/Integer")), Jvm.Cond.code ({ cls := "com/example/roomwire/roomwire/core/NightState", name := "maxStay", desc := "()Ljava/lang/Integer;" } : Jvm.MethodName) prog_25_method_16_code (1 : Nat) (Option.some (Jvm.ClassFile.FieldType.object "java/lang/Integer"))]
set_option maxRecDepth 65536 in
theorem codes_eq : words1.filter isCode = codes1 := rfl
theorem w_codes : ∀ c ∈ words1.filter isCode, c.before args0 about1 = true := by
  rw [codes_eq]
  intro c hc
  simp only [codes1, List.mem_cons, List.not_mem_nil, or_false] at hc
  rcases hc with rfl | rfl | rfl | rfl | rfl | rfl | rfl | rfl | rfl | rfl | rfl | rfl | rfl | rfl | rfl | rfl | rfl | rfl | rfl | rfl | rfl
  · exact w_c0
  · exact w_c1
  · exact w_c2
  · exact w_c3
  · exact w_c4
  · exact w_c5
  · exact w_c6
  · exact w_c7
  · exact w_c8
  · exact w_c9
  · exact w_c10
  · exact w_c11
  · exact w_c12
  · exact w_c13
  · exact w_c14
  · exact w_c15
  · exact w_c16
  · exact w_c17
  · exact w_c18
  · exact w_c19
  · exact w_c20
set_option maxRecDepth 65536 in
theorem w_t1 : (words1.take 24).all (fun c => isCode c || c.before args0 about1) = true := by decide +kernel
set_option maxRecDepth 65536 in
theorem w_t2 : ((words1.drop 24).take 24).all (fun c => isCode c || c.before args0 about1) = true := by decide +kernel
set_option maxRecDepth 65536 in
theorem w_t3 : (((words1.drop 24).drop 24).take 24).all (fun c => isCode c || c.before args0 about1) = true := by decide +kernel
set_option maxRecDepth 65536 in
theorem w_t4 : ((((words1.drop 24).drop 24).drop 24).take 24).all (fun c => isCode c || c.before args0 about1) = true := by decide +kernel
set_option maxRecDepth 65536 in
theorem w_t5 : ((((words1.drop 24).drop 24).drop 24).drop 24).all (fun c => isCode c || c.before args0 about1) = true := by decide +kernel
theorem w_tables : (allAtoms (Jvm.Cond.code x code maxLocals ret :: tables_1)).before args0 about1 = true := by
  rw [allAtoms_all]
  show words1.all (fun c => c.before args0 about1) = true
  refine all_split ?_ w_codes
  rw [← List.take_append_drop 24 words1, List.all_append, w_t1, ← List.take_append_drop 24 (words1.drop 24), List.all_append, w_t2, ← List.take_append_drop 24 ((words1.drop 24).drop 24), List.all_append, w_t3, ← List.take_append_drop 24 (((words1.drop 24).drop 24).drop 24), List.all_append, w_t4, w_t5]
  rfl
set_option maxRecDepth 65536 in
theorem w_rest : rest_1_c.before args0 about1 = true := by decide +kernel
set_option maxRecDepth 65536 in
theorem w_case : (Jvm.Cond.and given_1 narrow_1).before args0 about1 = true := by decide +kernel
theorem w_applies : (headSpec (Jvm.Cond.code x code maxLocals ret :: tables_1) room_1).applies x e0.platform about1 = true :=
  (Spec.applies_iff w_frames).mpr ⟨w_running, w_runnable, w_alone, w_named, w_hears, w_ripe, w_room, w_tables⟩
theorem atStart : AtStart classFile x code maxLocals ret World_1 tables_1 room_1 Calls_1 rest_1 Pre_1 launch0 p0 e0 about1 theMethod args0 below0 :=
  ⟨lists_1, trivial, launch0.admits_env _ _ _, launch0.least_env, fairChoices_fair.cas, fairChoices_fair.clock, w_frames, w_args, w_heap, w_applies, trivial, w_rest, w_case⟩
end start1
theorem witness_1 : WitnessClaimed_1 := ⟨start1.p0, start1.e0, start1.about1, start1.theMethod, start1.args0, start1.below0, start1.atStart⟩
end Jvm.Pilot.@@N@@
