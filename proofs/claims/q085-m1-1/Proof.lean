import JvmDerived
import JvmDerived.Pilot.@@N@@Statement
import JvmDerived.Pilot.@@N@@Code
set_option linter.unusedVariables false
set_option linter.unusedSimpArgs false
namespace Jvm.RoadKit
open Sem ClassFile Op Lib Jvm.Stand Jvm.Free Jvm.LawKit
section New
variable {p : Program} {l : Launch} {e : Env} {R : Room} {s : State} {m : MethodId} {args : Array Value} {below : List Frame} {meth : Method} {c : Code} {T : State} {locs : List Loc} {cells slots : Nat}
theorem retI (X : Stand p l e R s m args below meth c T locs cells slots) (hx : p.tables.exec = Jvm.exec) {pc : Nat} {Ls : Array Slot} {z : Int32} {rest : List Value} (hret : meth.sig.returnType = some .int) (hd : decode c.code pc = .ok (.ireturn, 1)) {fs : List Frame}
    (hl : ∀ (f : JFrame) (acts : List Action), f.method = m → f.locked = none → f.entered = [] → (doReturn e (T.setTop f) acts (some (.int z))).1 = T.setFrames fs) : Steps p.tables e below (T.setTop (mkF m pc Ls (.int z :: rest))) (T.setFrames fs) := by
  have hm' : T.vm.method? m = some meth := X.method'
  have hn : narrow .int (.int z) = .int z := rfl
  show Steps p.tables e below (T.setTop { method := m, pc := pc, locals := Ls, stack := _ :: rest, locked := none }) _
  jvm_step X.here [X.here.top, hx, hd, hm', hret, hn]
  first | (intro acts; rw [hl _ acts rfl rfl rfl]) | rw [hl _ _ rfl rfl rfl]
  exact Steps.refl _
end New
end Jvm.RoadKit

namespace Jvm.Pilot.@@N@@
open Jvm Jvm.ClassFile Sem Op Lib Jvm.Free Jvm.Stand Jvm.LawKit Jvm.RoadKit Bundle Jvm.Pilot.@@N@@.Jvm.D
def own_Go (p : Program) (e : Env) (below : List Frame) (Qf : Outcome → State → Prop) (A : State) : Prop := ∃ s₂ o, Steps p.tables e below A s₂ ∧ s₂.status = .running ∧ Ended s₂ below o ∧ Qf o s₂
theorem own_go {p : Program} {e : Env} {below : List Frame} {Qf : Outcome → State → Prop} {A B : State} (st : ∀ t, Steps p.tables e below B t → Steps p.tables e below A t) (h : own_Go p e below Qf B) : own_Go p e below Qf A := by
  obtain ⟨t, o, h1, h2⟩ := h
  exact ⟨t, o, st t h1, h2⟩
theorem own_fits {v : Value} {t : FieldType} (h : v.isRef = true) (ht : t.isReference = true) : fits t v = true := by
  cases t <;> first | (cases ht; done) | (cases v <;> simp_all [fits, Value.isRef])
theorem own_eqr {Z : State} {args : Array Value} {X F : Term} {idx : List Nat} {y : Addr} (hF : F.eval args Z none idx Z = some (.ref y)) (h : (Jvm.Cond.eq X F).value args Z none Z idx = some true) : X.eval args Z none idx Z = some (.ref y) := by
  obtain ⟨x, y', e1, e2, k1, k2⟩ := cmp_v (Or.inl h)
  cases hF.symm.trans e2
  have hx : x.isRef = true := k2.2
  exact e1.trans (congrArg some (gotT (eq_R e1 hF hx rfl) h))
theorem own_len {Z : State} {args : Array Value} {t : Term} {a : Addr} {c : Cell} {ty : FieldType} {n : Int32} (ev : t.eval args Z none [] Z = some (.ref a)) (A : Arr Z Z.heap a c ty) (h : (Jvm.Cond.eq (Term.length t) (Term.int n)).value args Z none Z [] = some true) : c.slots.size < 2 ^ 31 ∧ c.slots.size.toInt32 = n := by
  have l := eqv_i (y := n) rfl h
  have q := Jvm.Free.SBG.length_lt ev (A.fin (Vm.Alike.refl _)) l
  have e := len_f ev (A.fin (Vm.Alike.refl _)) q
  rw [e] at l
  exact ⟨q, Value.int.inj (Option.some.inj l)⟩
theorem own_el {Z : State} {args : Array Value} {t : Term} {a : Addr} {c : Cell} {ty : FieldType} {j : Int32} {v : Value} (ev : t.eval args Z none [] Z = some (.ref a)) (A : Arr Z Z.heap a c ty) (h : (Term.elem t (Term.int j)).eval args Z none [] Z = some v) : c.slots[j.toNatClampNeg]? = some v := (elem_in h ev rfl A.1).2
def own_kind (n : Int32) (a b c : Addr) : Addr := if n = 1 then a else if n = 2 then b else c
theorem own_rng (x : Int32) : (x &&& (2147483647 : Int32)) % (3 : Int32) + (1 : Int32) = 1 ∨ (x &&& (2147483647 : Int32)) % (3 : Int32) + (1 : Int32) = 2 ∨ (x &&& (2147483647 : Int32)) % (3 : Int32) + (1 : Int32) = 3 := by
  have a1 := c_mask x 2147483647 31 (by decide) (by decide)
  generalize x &&& (2147483647 : Int32) = y at *
  have a2 := (c_irem y 3 3 (by decide)).1 (by omega)
  generalize y % (3 : Int32) = z at *
  have a3 := c_iadd z 1
  have r := rng32 (z + 1)
  have o1 : (1 : Int32).toInt = 1 := by decide
  have o2 : (2 : Int32).toInt = 2 := by decide
  have o3 : (3 : Int32).toInt = 3 := by decide
  rw [o1] at a3
  simp only [← Int32.toInt_inj, o1, o2, o3]
  omega
theorem own_third {p : Int32} (hp : p = 1 ∨ p = 2 ∨ p = 3) (h1 : ¬ (1 : Int32) = p) (h2 : ¬ (2 : Int32) = p) : (3 : Int32) = p := by
  rcases hp with e | e | e
  · exact absurd e.symm h1
  · exact absurd e.symm h2
  · exact e.symm
theorem own_k1 {p : Int32} {a b c : Addr} (h : (1 : Int32) = p) : own_kind p a b c = a := by subst h; rfl
theorem own_k2 {p : Int32} {a b c : Addr} (h : (2 : Int32) = p) : own_kind p a b c = b := by subst h; rfl
theorem own_k3 {p : Int32} {a b c : Addr} (h : (3 : Int32) = p) : own_kind p a b c = c := by subst h; rfl
def own_G (Z : State) (wV : Addr) (w1 : Addr) (w2 : Addr) (w3 : Addr) (k_wV : ClassId) : Prop := Sta Z Z.heap "com/example/renewl/renewl/Step$Kind" "$VALUES" "[Lcom/example/renewl/renewl/Step$Kind;" (.ref wV) ∧ Exa Z Z.heap wV "[Lcom/example/renewl/renewl/Step$Kind;" ∧ Sta Z Z.heap "com/example/renewl/renewl/Step$Kind" "REMINDER" "Lcom/example/renewl/renewl/Step$Kind;" (.ref w1) ∧ Exa Z Z.heap w1 "com/example/renewl/renewl/Step$Kind" ∧ Sta Z Z.heap "com/example/renewl/renewl/Step$Kind" "CHARGE" "Lcom/example/renewl/renewl/Step$Kind;" (.ref w2) ∧ Exa Z Z.heap w2 "com/example/renewl/renewl/Step$Kind" ∧ Sta Z Z.heap "com/example/renewl/renewl/Step$Kind" "EXPIRY" "Lcom/example/renewl/renewl/Step$Kind;" (.ref w3) ∧ Exa Z Z.heap w3 "com/example/renewl/renewl/Step$Kind" ∧ Fld Z Z.heap w1 "com/example/renewl/renewl/Step$Kind" "number" "I" (.int (1 : Int32)) ∧ Fld Z Z.heap w2 "com/example/renewl/renewl/Step$Kind" "number" "I" (.int (2 : Int32)) ∧ Fld Z Z.heap w3 "com/example/renewl/renewl/Step$Kind" "number" "I" (.int (3 : Int32)) ∧ Arv Z Z.heap wV k_wV (.object "com/example/renewl/renewl/Step$Kind") (3 : Int32) [(.ref w1), (.ref w2), (.ref w3)] .null ∧ True
theorem d2_0 : decode prog_22_method_1_code 0 = .ok (.getstatic 13, 3) := by decide +kernel
theorem d2_3 : decode prog_22_method_1_code 3 = .ok (.invokevirtual 17, 3) := by decide +kernel
theorem d2_6 : decode prog_22_method_1_code 6 = .ok (.checkcast 18, 3) := by decide +kernel
theorem d2_9 : decode prog_22_method_1_code 9 = .ok (.areturn, 1) := by decide +kernel
theorem pn_2 : plainName "com/example/renewl/renewl/Step$Kind" = true := by first | (simp [plainName, overriddenIn]; done) | decide +kernel
theorem ef_rm2 (m : MethodId)  : entryFrame m #[] 0 = mkF m 0 #[] [] := by first | (simp [entryFrame, mkF, argsToLocals, Value.category]; done) | rfl
def Q_rm2 (Z : State) (wV : Addr) (w1 : Addr) (w2 : Addr) (w3 : Addr) (k_wV : ClassId) (h0 : Heap) (n0 : Nat) (v : Option Value) (h : Heap) (L : List Loc) : Prop := ∃ (b : Addr), v = some (.ref b) ∧ Fr n0 L ∧ Keep h0 h [] ∧ n0 ≤ b ∧ Arv Z h b k_wV (.object "com/example/renewl/renewl/Step$Kind") (3 : Int32) [(.ref w1), (.ref w2), (.ref w3)] .null
set_option maxRecDepth 65536 in
set_option maxHeartbeats 40000000 in
theorem rm2 (l : Launch) (Z : State) (a0 : Array Value) (hw : ∀ d ∈ tables_1, d.before a0 Z = true) (ws : List Jvm.Cond) (wV : Addr) (w1 : Addr) (w2 : Addr) (w3 : Addr) (k_wV : ClassId) (G : own_G Z wV w1 w2 w3 k_wV) (h0 : Heap) (n0 : Nat) (Z0 : n0 ≤ h0.size) (O0 : Old Z n0 h0) :
    MetFree l (⟨"com/example/renewl/renewl/Step$Kind", "values", "()[Lcom/example/renewl/renewl/Step$Kind;"⟩ : MethodName) (head1 (Jvm.Cond.code (⟨"com/example/renewl/renewl/Step$Kind", "values", "()[Lcom/example/renewl/renewl/Step$Kind;"⟩ : MethodName) prog_22_method_1_code 0 (some (.array (.object "com/example/renewl/renewl/Step$Kind"))) :: ws) ({ frames := 1, cells := 1, slots := 3, locals := 14 } : Room)) (fun a U => a = #[] ∧ Z.Warmed39 U.vm ∧ U.heap = h0) (fun _ _ _ _ _ => True) (fun _ U o U' => ∃ v L, o = .returned v ∧ Q_rm2 Z wV w1 w2 w3 k_wV h0 n0 v U'.heap L ∧ FrameEnd U o U' L ({ frames := 1, cells := 1, slots := 3, locals := 14 } : Room).cells ({ frames := 1, cells := 1, slots := 3, locals := 14 } : Room).slots) := by
  refine MetFree.of_bodySF (plainFor_of_name pn_2) hisR ?_
  intro p e s m args below meth c s₁ Bd hml0 hP hK
  obtain ⟨rfl, hZ, hh⟩ := hP
  have hx := Bd.exec
  have hby := Bd.bytes
  have hml : c.maxLocals = 0 := hml0
  have hown : s.vm.findClass "com/example/renewl/renewl/Step$Kind" = some m.cls := findClass_of_methodNamed Bd.named
  have hnm := (name_of_methodNamed Bd.named Bd.method).1
  have X0 : Stand p l e ({ frames := 1, cells := 1, slots := 3, locals := 14 } : Room) s m #[] below meth c s₁ [] 0 0 := Stand.of_body Bd
  have e0 : s₁.heap = h0 := by rw [← hh, Bd.state]; rfl
  have N0 := Fr.nil n0
  have K0 := Keep.refl h0 ([] : List Addr)
  have G_ := G
  obtain ⟨S_Step_Kind_VALUES, E_wV, S_Step_Kind_REMINDER, E_w1, S_Step_Kind_CHARGE, E_w2, S_Step_Kind_EXPIRY, E_w3, F_number_w1, F_number_w2, F_number_w3, V_wV, G_end⟩ := G_
  change own_Go p e below _ _
  refine own_go (B := s₁.setTop (mkF m 0 #[] [])) (fun _ k => castTop (ef_rm2 m ) k) ?_
  obtain ⟨T1, X1, e1, st1⟩ := getS2 X0 hx hZ hown (host := "") (Or.inl (hw _ (List.mem_of_getElem? (i := 8) rfl))) Via.refl e0 (S_Step_Kind_VALUES.ext O0.2) (g := (mkF m 0 #[] [])) rfl (hb hby d2_0)
  refine own_go (B := T1.setTop (mkF m 3 #[] [(.ref wV)])) (st1) ?_
  obtain ⟨T2, h2, X2, e2, E2, V2, Ex2, st2⟩ := cloneH X1 hx hZ hown (hw _ (List.mem_of_getElem? (i := 10) rfl)) (hw _ (List.mem_of_getElem? (i := 11) rfl)) (hw _ (List.mem_of_getElem? (i := 15) rfl)) (hw _ (List.mem_of_getElem? (i := 13) rfl)) (hw _ (List.mem_of_getElem? (i := 14) rfl)) (hw _ (List.mem_of_getElem? (i := 16) rfl)) e1 (Arv.arh (V_wV.ext O0.2)) (E_wV.ext O0.2) (g := (mkF m 3 #[] [(.ref wV)])) rfl (by rw [hml]; rfl) rfl (hb hby d2_3) (by decide) (W := 0) (cap := 3) (by show 2 * 0 + _ ≤ _; exact Nat.le_of_eq rfl) (by decide) (by decide) (by decide) (by decide)
  obtain ⟨b2, g2⟩ : ∃ z, z = h0.size := ⟨_, rfl⟩
  rw [← g2] at V2 Ex2 st2
  have g_b2 : n0 ≤ b2 := Nat.le_trans (Nat.le_trans Z0 K0.1) (Nat.le_of_eq g2.symm)
  have sz_b2 : h0.size ≤ b2 := Nat.le_trans K0.1 (Nat.le_of_eq g2.symm)
  have O2 := O0.ext E2
  have K2' : Keep h0 h2 ([] : List Addr) := K0.ext E2
  replace V2 : Arv Z h2 b2 k_wV (.object "com/example/renewl/renewl/Step$Kind") (3 : Int32) [(.ref w1), (.ref w2), (.ref w3)] .null := V2
  refine own_go (B := T2.setTop (mkF m 6 #[] [(.ref b2)])) (st2) ?_
  obtain ⟨T3, X3, e3, st3⟩ := castY X2 hx hZ hown (hw _ (List.mem_of_getElem? (i := 21) rfl)) e2 (Ins.self Ex2) (g := (mkF m 6 #[] [(.ref b2)])) rfl rfl (hb hby d2_6)
  refine own_go (B := T3.setTop (mkF m 9 #[] [(.ref b2)])) (st3) ?_
  obtain ⟨fs, hr, hrun, hended, hW, hsame⟩ := X3.leave (v := some (.ref b2)) (fun h => by rw [Bd.returns] at h; cases h)
  refine ⟨_, _, retOut X3 hx Bd.returns rfl (Or.inr (Or.inr (Or.inr (Or.inr ⟨rfl, rfl, rfl⟩)))) (hb hby d2_9) hr, hrun, hended, _, _, rfl, ?_, ⟨_, rfl⟩, hW, hsame.mono (by decide) (by decide)⟩
  show Q_rm2 Z wV w1 w2 w3 k_wV h0 n0 _ T3.heap _
  rw [e3]
  exact ⟨b2, rfl, N0, K2', g_b2, V2⟩
theorem pd_0 : parseMethodDescriptor "()[Lcom/example/renewl/renewl/Step$Kind;" = some ⟨[], some (.array (.object "com/example/renewl/renewl/Step$Kind"))⟩ := by decide +kernel
theorem d1_0 : decode prog_22_method_5_code 0 = .ok (.invokestatic 36, 3) := by decide +kernel
theorem d1_3 : decode prog_22_method_5_code 3 = .ok (.astore_n 1, 1) := by decide +kernel
theorem d1_4 : decode prog_22_method_5_code 4 = .ok (.aload_n 1, 1) := by decide +kernel
theorem d1_5 : decode prog_22_method_5_code 5 = .ok (.arraylength, 1) := by decide +kernel
theorem d1_6 : decode prog_22_method_5_code 6 = .ok (.istore_n 2, 1) := by decide +kernel
theorem d1_7 : decode prog_22_method_5_code 7 = .ok (.iconst 0, 1) := by decide +kernel
theorem d1_8 : decode prog_22_method_5_code 8 = .ok (.istore_n 3, 1) := by decide +kernel
theorem d1_9 : decode prog_22_method_5_code 9 = .ok (.iload_n 3, 1) := by decide +kernel
theorem d1_10 : decode prog_22_method_5_code 10 = .ok (.iload_n 2, 1) := by decide +kernel
theorem d1_11 : decode prog_22_method_5_code 11 = .ok (.if_icmp .ge 26, 3) := by decide +kernel
theorem d1_14 : decode prog_22_method_5_code 14 = .ok (.aload_n 1, 1) := by decide +kernel
theorem d1_15 : decode prog_22_method_5_code 15 = .ok (.iload_n 3, 1) := by decide +kernel
theorem d1_16 : decode prog_22_method_5_code 16 = .ok (.aaload, 1) := by decide +kernel
theorem d1_17 : decode prog_22_method_5_code 17 = .ok (.astore 4, 2) := by decide +kernel
theorem d1_19 : decode prog_22_method_5_code 19 = .ok (.aload 4, 2) := by decide +kernel
theorem d1_21 : decode prog_22_method_5_code 21 = .ok (.getfield 32, 3) := by decide +kernel
theorem d1_24 : decode prog_22_method_5_code 24 = .ok (.iload_n 0, 1) := by decide +kernel
theorem d1_25 : decode prog_22_method_5_code 25 = .ok (.if_icmp .ne 6, 3) := by decide +kernel
theorem d1_28 : decode prog_22_method_5_code 28 = .ok (.aload 4, 2) := by decide +kernel
theorem d1_30 : decode prog_22_method_5_code 30 = .ok (.areturn, 1) := by decide +kernel
theorem d1_31 : decode prog_22_method_5_code 31 = .ok (.iinc 3 1, 3) := by decide +kernel
theorem d1_34 : decode prog_22_method_5_code 34 = .ok (.goto (-25), 3) := by decide +kernel
theorem ef_rm1 (m : MethodId) (p1 : Int32) : entryFrame m #[(.int p1)] 5 = mkF m 0 #[.val (.int p1), .unset, .unset, .unset, .unset] [] := by first | (simp [entryFrame, mkF, argsToLocals, Value.category]; done) | rfl
def Q_rm1 (Z : State) (wV : Addr) (w1 : Addr) (w2 : Addr) (w3 : Addr) (k_wV : ClassId) (p1 : Int32) (h0 : Heap) (n0 : Nat) (v : Option Value) (h : Heap) (L : List Loc) : Prop := v = some (.ref (own_kind p1 w1 w2 w3)) ∧ Fr n0 L ∧ Keep h0 h []
set_option maxRecDepth 65536 in
set_option maxHeartbeats 40000000 in
theorem rm1 (l : Launch) (Z : State) (a0 : Array Value) (hw : ∀ d ∈ tables_1, d.before a0 Z = true) (ws : List Jvm.Cond) (wV : Addr) (w1 : Addr) (w2 : Addr) (w3 : Addr) (k_wV : ClassId) (G : own_G Z wV w1 w2 w3 k_wV) (p1 : Int32) (h0 : Heap) (n0 : Nat) (Z0 : n0 ≤ h0.size) (O0 : Old Z n0 h0) (hp : p1 = 1 ∨ p1 = 2 ∨ p1 = 3) :
    MetFree l (⟨"com/example/renewl/renewl/Step$Kind", "ofNumber", "(I)Lcom/example/renewl/renewl/Step$Kind;"⟩ : MethodName) (head1 (Jvm.Cond.code (⟨"com/example/renewl/renewl/Step$Kind", "ofNumber", "(I)Lcom/example/renewl/renewl/Step$Kind;"⟩ : MethodName) prog_22_method_5_code 5 (some (.object "com/example/renewl/renewl/Step$Kind")) :: ws) ({ frames := 2, cells := 1, slots := 3, locals := 25 } : Room)) (fun a U => a = #[(.int p1)] ∧ Z.Warmed39 U.vm ∧ U.heap = h0) (fun _ _ _ _ _ => True) (fun _ U o U' => ∃ v L, o = .returned v ∧ Q_rm1 Z wV w1 w2 w3 k_wV p1 h0 n0 v U'.heap L ∧ FrameEnd U o U' L ({ frames := 2, cells := 1, slots := 3, locals := 25 } : Room).cells ({ frames := 2, cells := 1, slots := 3, locals := 25 } : Room).slots) := by
  refine MetFree.of_bodySF (plainFor_of_name pn_2) hisR ?_
  intro p e s m args below meth c s₁ Bd hml0 hP hK
  obtain ⟨rfl, hZ, hh⟩ := hP
  have hx := Bd.exec
  have hby := Bd.bytes
  have hml : c.maxLocals = 5 := hml0
  have hown : s.vm.findClass "com/example/renewl/renewl/Step$Kind" = some m.cls := findClass_of_methodNamed Bd.named
  have hnm := (name_of_methodNamed Bd.named Bd.method).1
  have X0 : Stand p l e ({ frames := 2, cells := 1, slots := 3, locals := 25 } : Room) s m #[(.int p1)] below meth c s₁ [] 0 0 := Stand.of_body Bd
  have e0 : s₁.heap = h0 := by rw [← hh, Bd.state]; rfl
  have N0 := Fr.nil n0
  have K0 := Keep.refl h0 ([] : List Addr)
  have G_ := G
  obtain ⟨S_Step_Kind_VALUES, E_wV, S_Step_Kind_REMINDER, E_w1, S_Step_Kind_CHARGE, E_w2, S_Step_Kind_EXPIRY, E_w3, F_number_w1, F_number_w2, F_number_w3, V_wV, G_end⟩ := G_
  change own_Go p e below _ _
  refine own_go (B := s₁.setTop (mkF m 0 #[.val (.int p1), .unset, .unset, .unset, .unset] [])) (fun _ k => castTop (ef_rm1 m p1) k) ?_
  obtain ⟨_, _, ⟨T1, L1, k1, n1⟩, -, X1, ⟨Lc1, hQ1, l1, y1, z1⟩, st1⟩ := Jvm.LawKit.callS X0 hx (y := (⟨"com/example/renewl/renewl/Step$Kind", "values", "()[Lcom/example/renewl/renewl/Step$Kind;"⟩ : MethodName)) hown (mvT hZ (hw _ (List.mem_of_getElem? (i := 5) rfl))) (mvT hZ (hw _ (List.mem_of_getElem? (i := 6) rfl))) (mvT hZ (hw _ (List.mem_of_getElem? (i := 3) rfl))) (mvT hZ (hw _ (List.mem_of_getElem? (i := 7) rfl))) (by decide) (backOf (W := 0) (rm2 l Z a0 hw [] wV w1 w2 w3 k_wV G  h0 n0 (Nat.le_trans Z0 K0.1) O0 ) hZ (hw _ (List.mem_of_getElem? (i := 7) rfl)) (hw _ (List.mem_of_getElem? (i := 3) rfl)) (by decide) (by decide)) (g := (mkF m 0 #[.val (.int p1), .unset, .unset, .unset, .unset] [])) rfl (by rw [hml]; rfl) (argsL := []) (rest := []) (lenOf pd_0 rfl) rfl (by show 2 * 0 + _ ≤ _; exact Nat.le_of_eq rfl) (hb hby d1_0) (fun _ _ => ⟨rfl, e0, (by decide : 0 + 1 ≤ 1), (by decide : 0 + 3 ≤ 3)⟩)
  dsimp only [Pt.U, Pt.locs, Pt.cells, Pt.slots] at X1 l1 y1 z1 st1 hQ1
  subst l1 y1 z1
  obtain ⟨b_1, rfl, N1q, K1, ge_1, V_1⟩ := hQ1
  have N1 := Fr.app N0 N1q
  have O1 := O0.keep K1 all0
  have K1' : Keep h0 T1.heap ([] : List Addr) := K0.trans K1 all0
  refine own_go (B := T1.setTop (mkF m 3 #[.val (.int p1), .unset, .unset, .unset, .unset] [(.ref b_1)])) (st1) ?_
  refine own_go (B := T1.setTop (mkF m 4 #[.val (.int p1), .val (.ref b_1), .unset, .unset, .unset] [])) (fun _ k => XS.astoreN X1.here hx rfl (hb hby d1_3) rfl rfl (l' := #[.val (.int p1), .val (.ref b_1), .unset, .unset, .unset]) rfl k) ?_
  refine own_go (B := T1.setTop (mkF m 5 #[.val (.int p1), .val (.ref b_1), .unset, .unset, .unset] [(.ref b_1)])) (fun _ k => XS.aloadN X1.here hx rfl (hb hby d1_4) rfl rfl k) ?_
  obtain ⟨cl2, Ar2, -, Sz2, Nn2, -, -⟩ := id V_1
  refine own_go (B := T1.setTop (mkF m 6 #[.val (.int p1), .val (.ref b_1), .unset, .unset, .unset] [(.int cl2.slots.size.toInt32)])) (X1.arraylength hx (show T1.heap[_]? = _ from Ar2.1) (State.isArrayOf_alike hZ.alike Ar2.2.1) (g := (mkF m 5 #[.val (.int p1), .val (.ref b_1), .unset, .unset, .unset] [(.ref b_1)])) rfl rfl (hb hby d1_5)) ?_
  rw [len_of Sz2 Nn2]
  refine own_go (B := T1.setTop (mkF m 7 #[.val (.int p1), .val (.ref b_1), .val (.int (3 : Int32)), .unset, .unset] [])) (fun _ k => XS.istoreN X1.here hx rfl (hb hby d1_6) rfl (l' := #[.val (.int p1), .val (.ref b_1), .val (.int (3 : Int32)), .unset, .unset]) rfl k) ?_
  refine own_go (B := T1.setTop (mkF m 8 #[.val (.int p1), .val (.ref b_1), .val (.int (3 : Int32)), .unset, .unset] [(.int (0 : Int32))])) (fun _ k => XS.iconst X1.here hx rfl (hb hby d1_7) k) ?_
  refine own_go (B := T1.setTop (mkF m 9 #[.val (.int p1), .val (.ref b_1), .val (.int (3 : Int32)), .val (.int (0 : Int32)), .unset] [])) (fun _ k => XS.istoreN X1.here hx rfl (hb hby d1_8) rfl (l' := #[.val (.int p1), .val (.ref b_1), .val (.int (3 : Int32)), .val (.int (0 : Int32)), .unset]) rfl k) ?_
  refine own_go (B := T1.setTop (mkF m 10 #[.val (.int p1), .val (.ref b_1), .val (.int (3 : Int32)), .val (.int (0 : Int32)), .unset] [(.int (0 : Int32))])) (fun _ k => XS.iloadN X1.here hx rfl (hb hby d1_9) rfl k) ?_
  refine own_go (B := T1.setTop (mkF m 11 #[.val (.int p1), .val (.ref b_1), .val (.int (3 : Int32)), .val (.int (0 : Int32)), .unset] [(.int (3 : Int32)), (.int (0 : Int32))])) (fun _ k => XS.iloadN X1.here hx rfl (hb hby d1_10) rfl k) ?_
  refine own_go (B := T1.setTop (mkF m 14 #[.val (.int p1), .val (.ref b_1), .val (.int (3 : Int32)), .val (.int (0 : Int32)), .unset] [])) (fun _ k => XS.icmpNo X1.here hx rfl (hb hby d1_11) rfl (tlt (by decide : (0 : Int32) < (3 : Int32))).2.1 k) ?_
  refine own_go (B := T1.setTop (mkF m 15 #[.val (.int p1), .val (.ref b_1), .val (.int (3 : Int32)), .val (.int (0 : Int32)), .unset] [(.ref b_1)])) (fun _ k => XS.aloadN X1.here hx rfl (hb hby d1_14) rfl rfl k) ?_
  refine own_go (B := T1.setTop (mkF m 16 #[.val (.int p1), .val (.ref b_1), .val (.int (3 : Int32)), .val (.int (0 : Int32)), .unset] [(.int (0 : Int32)), (.ref b_1)])) (fun _ k => XS.iloadN X1.here hx rfl (hb hby d1_15) rfl k) ?_
  obtain ⟨cl3, Ar3, q3, Sz3, Nn3, Hh3, Gg3⟩ := id V_1
  have hin3 : ¬ ((0 : Int32) < 0 ∨ cl3.slots.size ≤ ((0 : Int32)).toNatClampNeg) := inb_of Sz3 ⟨by decide, by decide⟩
  have hat3 : cl3.slots[((0 : Int32)).toNatClampNeg]? = some (.ref w1) := Has.at Hh3 hin3 rfl
  refine own_go (B := T1.setTop (mkF m 17 #[.val (.int p1), .val (.ref b_1), .val (.int (3 : Int32)), .val (.int (0 : Int32)), .unset] [(.ref w1)])) (X1.aaload hx (j := (0 : Int32)) (v := (.ref w1)) (show T1.heap[_]? = _ from Ar3.1) (State.isArrayOf_alike hZ.alike Ar3.2.1) rfl Ar3.2.2 hin3 hat3 (g := (mkF m 16 #[.val (.int p1), .val (.ref b_1), .val (.int (3 : Int32)), .val (.int (0 : Int32)), .unset] [(.int (0 : Int32)), (.ref b_1)])) rfl rfl (hb hby d1_16)) ?_
  refine own_go (B := T1.setTop (mkF m 19 #[.val (.int p1), .val (.ref b_1), .val (.int (3 : Int32)), .val (.int (0 : Int32)), .val (.ref w1)] [])) (fun _ k => XS.astore X1.here hx rfl (hb hby d1_17) rfl rfl (l' := #[.val (.int p1), .val (.ref b_1), .val (.int (3 : Int32)), .val (.int (0 : Int32)), .val (.ref w1)]) rfl k) ?_
  refine own_go (B := T1.setTop (mkF m 21 #[.val (.int p1), .val (.ref b_1), .val (.int (3 : Int32)), .val (.int (0 : Int32)), .val (.ref w1)] [(.ref w1)])) (fun _ k => XS.aload X1.here hx rfl (hb hby d1_19) rfl rfl k) ?_
  obtain ⟨T4, X4, e4, st4⟩ := getF X1 hx hZ hown (host := "") (Or.inl (hw _ (List.mem_of_getElem? (i := 23) rfl))) Via.refl rfl (F_number_w1.ext O1.2) (g := (mkF m 21 #[.val (.int p1), .val (.ref b_1), .val (.int (3 : Int32)), .val (.int (0 : Int32)), .val (.ref w1)] [(.ref w1)])) rfl rfl (hb hby d1_21)
  refine own_go (B := T4.setTop (mkF m 24 #[.val (.int p1), .val (.ref b_1), .val (.int (3 : Int32)), .val (.int (0 : Int32)), .val (.ref w1)] [(.int (1 : Int32))])) (st4) ?_
  refine own_go (B := T4.setTop (mkF m 25 #[.val (.int p1), .val (.ref b_1), .val (.int (3 : Int32)), .val (.int (0 : Int32)), .val (.ref w1)] [(.int p1), (.int (1 : Int32))])) (fun _ k => XS.iloadN X4.here hx rfl (hb hby d1_24) rfl k) ?_
  by_cases hc25 : (1 : Int32) = p1
  · refine own_go (B := T4.setTop (mkF m 28 #[.val (.int p1), .val (.ref b_1), .val (.int (3 : Int32)), .val (.int (0 : Int32)), .val (.ref w1)] [])) (fun _ k => XS.icmpNo X4.here hx rfl (hb hby d1_25) rfl (teq hc25).2 k) ?_
    refine own_go (B := T4.setTop (mkF m 30 #[.val (.int p1), .val (.ref b_1), .val (.int (3 : Int32)), .val (.int (0 : Int32)), .val (.ref w1)] [(.ref w1)])) (fun _ k => XS.aload X4.here hx rfl (hb hby d1_28) rfl rfl k) ?_
    obtain ⟨fs, hr, hrun, hended, hW, hsame⟩ := X4.leave (v := some (.ref w1)) (fun h => by rw [Bd.returns] at h; cases h)
    refine ⟨_, _, retOut X4 hx Bd.returns rfl (Or.inr (Or.inr (Or.inr (Or.inr ⟨rfl, rfl, rfl⟩)))) (hb hby d1_30) hr, hrun, hended, _, _, rfl, ?_, ⟨_, rfl⟩, hW, hsame.mono (by decide) (by decide)⟩
    show Q_rm1 Z wV w1 w2 w3 k_wV p1 h0 n0 _ T4.heap _
    rw [e4]
    exact ⟨(by rw [own_k1 hc25]), N1, K1'⟩
  · refine own_go (B := T4.setTop (mkF m 31 #[.val (.int p1), .val (.ref b_1), .val (.int (3 : Int32)), .val (.int (0 : Int32)), .val (.ref w1)] [])) (fun _ k => XS.icmpYes X4.here hx rfl (pc0 := 25) (pc' := 31) rfl (hb hby d1_25) rfl (feq hc25).2 (by decide) (by decide) k) ?_
    refine own_go (B := T4.setTop (mkF m 34 #[.val (.int p1), .val (.ref b_1), .val (.int (3 : Int32)), .val (.int ((0 : Int32) + (1 : Int32))), .val (.ref w1)] [])) (fun _ k => XS.iinc X4.here hx rfl (hb hby d1_31) rfl (l' := #[.val (.int p1), .val (.ref b_1), .val (.int (3 : Int32)), .val (.int ((0 : Int32) + (1 : Int32))), .val (.ref w1)]) rfl k) ?_
    rw [show ((0 : Int32) + (1 : Int32)) = (1 : Int32) from by decide]
    refine own_go (B := T4.setTop (mkF m 9 #[.val (.int p1), .val (.ref b_1), .val (.int (3 : Int32)), .val (.int (1 : Int32)), .val (.ref w1)] [])) (fun _ k => XS.goto X4.here hx rfl (pc0 := 34) (pc' := 9) rfl (hb hby d1_34) (by decide) (by decide) k) ?_
    refine own_go (B := T4.setTop (mkF m 10 #[.val (.int p1), .val (.ref b_1), .val (.int (3 : Int32)), .val (.int (1 : Int32)), .val (.ref w1)] [(.int (1 : Int32))])) (fun _ k => XS.iloadN X4.here hx rfl (hb hby d1_9) rfl k) ?_
    refine own_go (B := T4.setTop (mkF m 11 #[.val (.int p1), .val (.ref b_1), .val (.int (3 : Int32)), .val (.int (1 : Int32)), .val (.ref w1)] [(.int (3 : Int32)), (.int (1 : Int32))])) (fun _ k => XS.iloadN X4.here hx rfl (hb hby d1_10) rfl k) ?_
    refine own_go (B := T4.setTop (mkF m 14 #[.val (.int p1), .val (.ref b_1), .val (.int (3 : Int32)), .val (.int (1 : Int32)), .val (.ref w1)] [])) (fun _ k => XS.icmpNo X4.here hx rfl (hb hby d1_11) rfl (tlt (by decide : (1 : Int32) < (3 : Int32))).2.1 k) ?_
    refine own_go (B := T4.setTop (mkF m 15 #[.val (.int p1), .val (.ref b_1), .val (.int (3 : Int32)), .val (.int (1 : Int32)), .val (.ref w1)] [(.ref b_1)])) (fun _ k => XS.aloadN X4.here hx rfl (hb hby d1_14) rfl rfl k) ?_
    refine own_go (B := T4.setTop (mkF m 16 #[.val (.int p1), .val (.ref b_1), .val (.int (3 : Int32)), .val (.int (1 : Int32)), .val (.ref w1)] [(.int (1 : Int32)), (.ref b_1)])) (fun _ k => XS.iloadN X4.here hx rfl (hb hby d1_15) rfl k) ?_
    obtain ⟨cl5, Ar5, q5, Sz5, Nn5, Hh5, Gg5⟩ := id V_1
    have hin5 : ¬ ((1 : Int32) < 0 ∨ cl5.slots.size ≤ ((1 : Int32)).toNatClampNeg) := inb_of Sz5 ⟨by decide, by decide⟩
    have hat5 : cl5.slots[((1 : Int32)).toNatClampNeg]? = some (.ref w2) := Has.at Hh5 hin5 rfl
    refine own_go (B := T4.setTop (mkF m 17 #[.val (.int p1), .val (.ref b_1), .val (.int (3 : Int32)), .val (.int (1 : Int32)), .val (.ref w1)] [(.ref w2)])) (X4.aaload hx (j := (1 : Int32)) (v := (.ref w2)) (by rw [e4]; exact Ar5.1) (State.isArrayOf_alike hZ.alike Ar5.2.1) rfl Ar5.2.2 hin5 hat5 (g := (mkF m 16 #[.val (.int p1), .val (.ref b_1), .val (.int (3 : Int32)), .val (.int (1 : Int32)), .val (.ref w1)] [(.int (1 : Int32)), (.ref b_1)])) rfl rfl (hb hby d1_16)) ?_
    refine own_go (B := T4.setTop (mkF m 19 #[.val (.int p1), .val (.ref b_1), .val (.int (3 : Int32)), .val (.int (1 : Int32)), .val (.ref w2)] [])) (fun _ k => XS.astore X4.here hx rfl (hb hby d1_17) rfl rfl (l' := #[.val (.int p1), .val (.ref b_1), .val (.int (3 : Int32)), .val (.int (1 : Int32)), .val (.ref w2)]) rfl k) ?_
    refine own_go (B := T4.setTop (mkF m 21 #[.val (.int p1), .val (.ref b_1), .val (.int (3 : Int32)), .val (.int (1 : Int32)), .val (.ref w2)] [(.ref w2)])) (fun _ k => XS.aload X4.here hx rfl (hb hby d1_19) rfl rfl k) ?_
    obtain ⟨T6, X6, e6, st6⟩ := getF X4 hx hZ hown (host := "") (Or.inl (hw _ (List.mem_of_getElem? (i := 23) rfl))) Via.refl e4 (F_number_w2.ext O1.2) (g := (mkF m 21 #[.val (.int p1), .val (.ref b_1), .val (.int (3 : Int32)), .val (.int (1 : Int32)), .val (.ref w2)] [(.ref w2)])) rfl rfl (hb hby d1_21)
    refine own_go (B := T6.setTop (mkF m 24 #[.val (.int p1), .val (.ref b_1), .val (.int (3 : Int32)), .val (.int (1 : Int32)), .val (.ref w2)] [(.int (2 : Int32))])) (st6) ?_
    refine own_go (B := T6.setTop (mkF m 25 #[.val (.int p1), .val (.ref b_1), .val (.int (3 : Int32)), .val (.int (1 : Int32)), .val (.ref w2)] [(.int p1), (.int (2 : Int32))])) (fun _ k => XS.iloadN X6.here hx rfl (hb hby d1_24) rfl k) ?_
    by_cases hc25_2 : (2 : Int32) = p1
    · refine own_go (B := T6.setTop (mkF m 28 #[.val (.int p1), .val (.ref b_1), .val (.int (3 : Int32)), .val (.int (1 : Int32)), .val (.ref w2)] [])) (fun _ k => XS.icmpNo X6.here hx rfl (hb hby d1_25) rfl (teq hc25_2).2 k) ?_
      refine own_go (B := T6.setTop (mkF m 30 #[.val (.int p1), .val (.ref b_1), .val (.int (3 : Int32)), .val (.int (1 : Int32)), .val (.ref w2)] [(.ref w2)])) (fun _ k => XS.aload X6.here hx rfl (hb hby d1_28) rfl rfl k) ?_
      obtain ⟨fs, hr, hrun, hended, hW, hsame⟩ := X6.leave (v := some (.ref w2)) (fun h => by rw [Bd.returns] at h; cases h)
      refine ⟨_, _, retOut X6 hx Bd.returns rfl (Or.inr (Or.inr (Or.inr (Or.inr ⟨rfl, rfl, rfl⟩)))) (hb hby d1_30) hr, hrun, hended, _, _, rfl, ?_, ⟨_, rfl⟩, hW, hsame.mono (by decide) (by decide)⟩
      show Q_rm1 Z wV w1 w2 w3 k_wV p1 h0 n0 _ T6.heap _
      rw [e6]
      exact ⟨(by rw [own_k2 hc25_2]), N1, K1'⟩
    · refine own_go (B := T6.setTop (mkF m 31 #[.val (.int p1), .val (.ref b_1), .val (.int (3 : Int32)), .val (.int (1 : Int32)), .val (.ref w2)] [])) (fun _ k => XS.icmpYes X6.here hx rfl (pc0 := 25) (pc' := 31) rfl (hb hby d1_25) rfl (feq hc25_2).2 (by decide) (by decide) k) ?_
      refine own_go (B := T6.setTop (mkF m 34 #[.val (.int p1), .val (.ref b_1), .val (.int (3 : Int32)), .val (.int ((1 : Int32) + (1 : Int32))), .val (.ref w2)] [])) (fun _ k => XS.iinc X6.here hx rfl (hb hby d1_31) rfl (l' := #[.val (.int p1), .val (.ref b_1), .val (.int (3 : Int32)), .val (.int ((1 : Int32) + (1 : Int32))), .val (.ref w2)]) rfl k) ?_
      rw [show ((1 : Int32) + (1 : Int32)) = (2 : Int32) from by decide]
      refine own_go (B := T6.setTop (mkF m 9 #[.val (.int p1), .val (.ref b_1), .val (.int (3 : Int32)), .val (.int (2 : Int32)), .val (.ref w2)] [])) (fun _ k => XS.goto X6.here hx rfl (pc0 := 34) (pc' := 9) rfl (hb hby d1_34) (by decide) (by decide) k) ?_
      refine own_go (B := T6.setTop (mkF m 10 #[.val (.int p1), .val (.ref b_1), .val (.int (3 : Int32)), .val (.int (2 : Int32)), .val (.ref w2)] [(.int (2 : Int32))])) (fun _ k => XS.iloadN X6.here hx rfl (hb hby d1_9) rfl k) ?_
      refine own_go (B := T6.setTop (mkF m 11 #[.val (.int p1), .val (.ref b_1), .val (.int (3 : Int32)), .val (.int (2 : Int32)), .val (.ref w2)] [(.int (3 : Int32)), (.int (2 : Int32))])) (fun _ k => XS.iloadN X6.here hx rfl (hb hby d1_10) rfl k) ?_
      refine own_go (B := T6.setTop (mkF m 14 #[.val (.int p1), .val (.ref b_1), .val (.int (3 : Int32)), .val (.int (2 : Int32)), .val (.ref w2)] [])) (fun _ k => XS.icmpNo X6.here hx rfl (hb hby d1_11) rfl (tlt (by decide : (2 : Int32) < (3 : Int32))).2.1 k) ?_
      refine own_go (B := T6.setTop (mkF m 15 #[.val (.int p1), .val (.ref b_1), .val (.int (3 : Int32)), .val (.int (2 : Int32)), .val (.ref w2)] [(.ref b_1)])) (fun _ k => XS.aloadN X6.here hx rfl (hb hby d1_14) rfl rfl k) ?_
      refine own_go (B := T6.setTop (mkF m 16 #[.val (.int p1), .val (.ref b_1), .val (.int (3 : Int32)), .val (.int (2 : Int32)), .val (.ref w2)] [(.int (2 : Int32)), (.ref b_1)])) (fun _ k => XS.iloadN X6.here hx rfl (hb hby d1_15) rfl k) ?_
      obtain ⟨cl7, Ar7, q7, Sz7, Nn7, Hh7, Gg7⟩ := id V_1
      have hin7 : ¬ ((2 : Int32) < 0 ∨ cl7.slots.size ≤ ((2 : Int32)).toNatClampNeg) := inb_of Sz7 ⟨by decide, by decide⟩
      have hat7 : cl7.slots[((2 : Int32)).toNatClampNeg]? = some (.ref w3) := Has.at Hh7 hin7 rfl
      refine own_go (B := T6.setTop (mkF m 17 #[.val (.int p1), .val (.ref b_1), .val (.int (3 : Int32)), .val (.int (2 : Int32)), .val (.ref w2)] [(.ref w3)])) (X6.aaload hx (j := (2 : Int32)) (v := (.ref w3)) (by rw [e6]; exact Ar7.1) (State.isArrayOf_alike hZ.alike Ar7.2.1) rfl Ar7.2.2 hin7 hat7 (g := (mkF m 16 #[.val (.int p1), .val (.ref b_1), .val (.int (3 : Int32)), .val (.int (2 : Int32)), .val (.ref w2)] [(.int (2 : Int32)), (.ref b_1)])) rfl rfl (hb hby d1_16)) ?_
      refine own_go (B := T6.setTop (mkF m 19 #[.val (.int p1), .val (.ref b_1), .val (.int (3 : Int32)), .val (.int (2 : Int32)), .val (.ref w3)] [])) (fun _ k => XS.astore X6.here hx rfl (hb hby d1_17) rfl rfl (l' := #[.val (.int p1), .val (.ref b_1), .val (.int (3 : Int32)), .val (.int (2 : Int32)), .val (.ref w3)]) rfl k) ?_
      refine own_go (B := T6.setTop (mkF m 21 #[.val (.int p1), .val (.ref b_1), .val (.int (3 : Int32)), .val (.int (2 : Int32)), .val (.ref w3)] [(.ref w3)])) (fun _ k => XS.aload X6.here hx rfl (hb hby d1_19) rfl rfl k) ?_
      obtain ⟨T8, X8, e8, st8⟩ := getF X6 hx hZ hown (host := "") (Or.inl (hw _ (List.mem_of_getElem? (i := 23) rfl))) Via.refl e6 (F_number_w3.ext O1.2) (g := (mkF m 21 #[.val (.int p1), .val (.ref b_1), .val (.int (3 : Int32)), .val (.int (2 : Int32)), .val (.ref w3)] [(.ref w3)])) rfl rfl (hb hby d1_21)
      refine own_go (B := T8.setTop (mkF m 24 #[.val (.int p1), .val (.ref b_1), .val (.int (3 : Int32)), .val (.int (2 : Int32)), .val (.ref w3)] [(.int (3 : Int32))])) (st8) ?_
      refine own_go (B := T8.setTop (mkF m 25 #[.val (.int p1), .val (.ref b_1), .val (.int (3 : Int32)), .val (.int (2 : Int32)), .val (.ref w3)] [(.int p1), (.int (3 : Int32))])) (fun _ k => XS.iloadN X8.here hx rfl (hb hby d1_24) rfl k) ?_
      refine own_go (B := T8.setTop (mkF m 28 #[.val (.int p1), .val (.ref b_1), .val (.int (3 : Int32)), .val (.int (2 : Int32)), .val (.ref w3)] [])) (fun _ k => XS.icmpNo X8.here hx rfl (hb hby d1_25) rfl (teq (own_third hp hc25 hc25_2)).2 k) ?_
      refine own_go (B := T8.setTop (mkF m 30 #[.val (.int p1), .val (.ref b_1), .val (.int (3 : Int32)), .val (.int (2 : Int32)), .val (.ref w3)] [(.ref w3)])) (fun _ k => XS.aload X8.here hx rfl (hb hby d1_28) rfl rfl k) ?_
      obtain ⟨fs, hr, hrun, hended, hW, hsame⟩ := X8.leave (v := some (.ref w3)) (fun h => by rw [Bd.returns] at h; cases h)
      refine ⟨_, _, retOut X8 hx Bd.returns rfl (Or.inr (Or.inr (Or.inr (Or.inr ⟨rfl, rfl, rfl⟩)))) (hb hby d1_30) hr, hrun, hended, _, _, rfl, ?_, ⟨_, rfl⟩, hW, hsame.mono (by decide) (by decide)⟩
      show Q_rm1 Z wV w1 w2 w3 k_wV p1 h0 n0 _ T8.heap _
      rw [e8]
      exact ⟨(by rw [own_k3 (own_third hp hc25 hc25_2)]), N1, K1'⟩
theorem d3_0 : decode method_2_code 0 = .ok (.iload_n 0, 1) := by decide +kernel
theorem d3_1 : decode method_2_code 1 = .ok (.iconst 1, 1) := by decide +kernel
theorem d3_2 : decode method_2_code 2 = .ok (.if_icmp .ne 7, 3) := by decide +kernel
theorem d3_5 : decode method_2_code 5 = .ok (.getstatic 7, 3) := by decide +kernel
theorem d3_8 : decode method_2_code 8 = .ok (.areturn, 1) := by decide +kernel
theorem d3_9 : decode method_2_code 9 = .ok (.iload_n 0, 1) := by decide +kernel
theorem d3_10 : decode method_2_code 10 = .ok (.iconst 2, 1) := by decide +kernel
theorem d3_11 : decode method_2_code 11 = .ok (.if_icmp .ne 7, 3) := by decide +kernel
theorem d3_14 : decode method_2_code 14 = .ok (.getstatic 13, 3) := by decide +kernel
theorem d3_17 : decode method_2_code 17 = .ok (.areturn, 1) := by decide +kernel
theorem d3_18 : decode method_2_code 18 = .ok (.getstatic 16, 3) := by decide +kernel
theorem d3_21 : decode method_2_code 21 = .ok (.areturn, 1) := by decide +kernel
theorem pn_3 : plainName "com/example/renewl/renewl/KindOfNumberPinLaw" = true := by first | (simp [plainName, overriddenIn]; done) | decide +kernel
theorem ef_rm3 (m : MethodId) (p1 : Int32) : entryFrame m #[(.int p1)] 1 = mkF m 0 #[.val (.int p1)] [] := by first | (simp [entryFrame, mkF, argsToLocals, Value.category]; done) | rfl
def Q_rm3 (Z : State) (wV : Addr) (w1 : Addr) (w2 : Addr) (w3 : Addr) (k_wV : ClassId) (p1 : Int32) (h0 : Heap) (n0 : Nat) (v : Option Value) (h : Heap) (L : List Loc) : Prop := v = some (.ref (own_kind p1 w1 w2 w3)) ∧ Fr n0 L ∧ h = h0
set_option maxRecDepth 65536 in
set_option maxHeartbeats 40000000 in
theorem rm3 (l : Launch) (Z : State) (a0 : Array Value) (hw : ∀ d ∈ tables_1, d.before a0 Z = true) (ws : List Jvm.Cond) (wV : Addr) (w1 : Addr) (w2 : Addr) (w3 : Addr) (k_wV : ClassId) (G : own_G Z wV w1 w2 w3 k_wV) (p1 : Int32) (h0 : Heap) (n0 : Nat) (Z0 : n0 ≤ h0.size) (O0 : Old Z n0 h0) :
    MetFree l (⟨"com/example/renewl/renewl/KindOfNumberPinLaw", "expected", "(I)Lcom/example/renewl/renewl/Step$Kind;"⟩ : MethodName) (head1 (Jvm.Cond.code (⟨"com/example/renewl/renewl/KindOfNumberPinLaw", "expected", "(I)Lcom/example/renewl/renewl/Step$Kind;"⟩ : MethodName) method_2_code 1 (some (.object "com/example/renewl/renewl/Step$Kind")) :: ws) ({ frames := 0, cells := 0, slots := 0, locals := 0 } : Room)) (fun a U => a = #[(.int p1)] ∧ Z.Warmed39 U.vm ∧ U.heap = h0) (fun _ _ _ _ _ => True) (fun _ U o U' => ∃ v L, o = .returned v ∧ Q_rm3 Z wV w1 w2 w3 k_wV p1 h0 n0 v U'.heap L ∧ FrameEnd U o U' L ({ frames := 0, cells := 0, slots := 0, locals := 0 } : Room).cells ({ frames := 0, cells := 0, slots := 0, locals := 0 } : Room).slots) := by
  refine MetFree.of_bodySF (plainFor_of_name pn_3) hisR ?_
  intro p e s m args below meth c s₁ Bd hml0 hP hK
  obtain ⟨rfl, hZ, hh⟩ := hP
  have hx := Bd.exec
  have hby := Bd.bytes
  have hml : c.maxLocals = 1 := hml0
  have hown : s.vm.findClass "com/example/renewl/renewl/KindOfNumberPinLaw" = some m.cls := findClass_of_methodNamed Bd.named
  have hnm := (name_of_methodNamed Bd.named Bd.method).1
  have X0 : Stand p l e ({ frames := 0, cells := 0, slots := 0, locals := 0 } : Room) s m #[(.int p1)] below meth c s₁ [] 0 0 := Stand.of_body Bd
  have e0 : s₁.heap = h0 := by rw [← hh, Bd.state]; rfl
  have N0 := Fr.nil n0
  have K0 := Keep.refl h0 ([] : List Addr)
  have G_ := G
  obtain ⟨S_Step_Kind_VALUES, E_wV, S_Step_Kind_REMINDER, E_w1, S_Step_Kind_CHARGE, E_w2, S_Step_Kind_EXPIRY, E_w3, F_number_w1, F_number_w2, F_number_w3, V_wV, G_end⟩ := G_
  change own_Go p e below _ _
  refine own_go (B := s₁.setTop (mkF m 0 #[.val (.int p1)] [])) (fun _ k => castTop (ef_rm3 m p1) k) ?_
  refine own_go (B := s₁.setTop (mkF m 1 #[.val (.int p1)] [(.int p1)])) (fun _ k => XS.iloadN X0.here hx rfl (hb hby d3_0) rfl k) ?_
  refine own_go (B := s₁.setTop (mkF m 2 #[.val (.int p1)] [(.int (1 : Int32)), (.int p1)])) (fun _ k => XS.iconst X0.here hx rfl (hb hby d3_1) k) ?_
  by_cases hc2 : p1 = (1 : Int32)
  · refine own_go (B := s₁.setTop (mkF m 5 #[.val (.int p1)] [])) (fun _ k => XS.icmpNo X0.here hx rfl (hb hby d3_2) rfl (teq hc2).2 k) ?_
    obtain ⟨T1, X1, e1, st1⟩ := getS2 X0 hx hZ hown (host := "") (Or.inl (hw _ (List.mem_of_getElem? (i := 29) rfl))) Via.refl e0 (S_Step_Kind_REMINDER.ext O0.2) (g := (mkF m 5 #[.val (.int p1)] [])) rfl (hb hby d3_5)
    refine own_go (B := T1.setTop (mkF m 8 #[.val (.int p1)] [(.ref w1)])) (st1) ?_
    obtain ⟨fs, hr, hrun, hended, hW, hsame⟩ := X1.leave (v := some (.ref w1)) (fun h => by rw [Bd.returns] at h; cases h)
    refine ⟨_, _, retOut X1 hx Bd.returns rfl (Or.inr (Or.inr (Or.inr (Or.inr ⟨rfl, rfl, rfl⟩)))) (hb hby d3_8) hr, hrun, hended, _, _, rfl, ?_, ⟨_, rfl⟩, hW, hsame.mono (by decide) (by decide)⟩
    show Q_rm3 Z wV w1 w2 w3 k_wV p1 h0 n0 _ T1.heap _
    rw [e1]
    exact ⟨(by simp [own_kind, hc2]), N0, rfl⟩
  · refine own_go (B := s₁.setTop (mkF m 9 #[.val (.int p1)] [])) (fun _ k => XS.icmpYes X0.here hx rfl (pc0 := 2) (pc' := 9) rfl (hb hby d3_2) rfl (feq hc2).2 (by decide) (by decide) k) ?_
    refine own_go (B := s₁.setTop (mkF m 10 #[.val (.int p1)] [(.int p1)])) (fun _ k => XS.iloadN X0.here hx rfl (hb hby d3_9) rfl k) ?_
    refine own_go (B := s₁.setTop (mkF m 11 #[.val (.int p1)] [(.int (2 : Int32)), (.int p1)])) (fun _ k => XS.iconst X0.here hx rfl (hb hby d3_10) k) ?_
    by_cases hc11 : p1 = (2 : Int32)
    · refine own_go (B := s₁.setTop (mkF m 14 #[.val (.int p1)] [])) (fun _ k => XS.icmpNo X0.here hx rfl (hb hby d3_11) rfl (teq hc11).2 k) ?_
      obtain ⟨T2, X2, e2, st2⟩ := getS2 X0 hx hZ hown (host := "") (Or.inl (hw _ (List.mem_of_getElem? (i := 36) rfl))) Via.refl e0 (S_Step_Kind_CHARGE.ext O0.2) (g := (mkF m 14 #[.val (.int p1)] [])) rfl (hb hby d3_14)
      refine own_go (B := T2.setTop (mkF m 17 #[.val (.int p1)] [(.ref w2)])) (st2) ?_
      obtain ⟨fs, hr, hrun, hended, hW, hsame⟩ := X2.leave (v := some (.ref w2)) (fun h => by rw [Bd.returns] at h; cases h)
      refine ⟨_, _, retOut X2 hx Bd.returns rfl (Or.inr (Or.inr (Or.inr (Or.inr ⟨rfl, rfl, rfl⟩)))) (hb hby d3_17) hr, hrun, hended, _, _, rfl, ?_, ⟨_, rfl⟩, hW, hsame.mono (by decide) (by decide)⟩
      show Q_rm3 Z wV w1 w2 w3 k_wV p1 h0 n0 _ T2.heap _
      rw [e2]
      exact ⟨(by simp [own_kind, hc2, hc11]), N0, rfl⟩
    · refine own_go (B := s₁.setTop (mkF m 18 #[.val (.int p1)] [])) (fun _ k => XS.icmpYes X0.here hx rfl (pc0 := 11) (pc' := 18) rfl (hb hby d3_11) rfl (feq hc11).2 (by decide) (by decide) k) ?_
      obtain ⟨T3, X3, e3, st3⟩ := getS2 X0 hx hZ hown (host := "") (Or.inl (hw _ (List.mem_of_getElem? (i := 35) rfl))) Via.refl e0 (S_Step_Kind_EXPIRY.ext O0.2) (g := (mkF m 18 #[.val (.int p1)] [])) rfl (hb hby d3_18)
      refine own_go (B := T3.setTop (mkF m 21 #[.val (.int p1)] [(.ref w3)])) (st3) ?_
      obtain ⟨fs, hr, hrun, hended, hW, hsame⟩ := X3.leave (v := some (.ref w3)) (fun h => by rw [Bd.returns] at h; cases h)
      refine ⟨_, _, retOut X3 hx Bd.returns rfl (Or.inr (Or.inr (Or.inr (Or.inr ⟨rfl, rfl, rfl⟩)))) (hb hby d3_21) hr, hrun, hended, _, _, rfl, ?_, ⟨_, rfl⟩, hW, hsame.mono (by decide) (by decide)⟩
      show Q_rm3 Z wV w1 w2 w3 k_wV p1 h0 n0 _ T3.heap _
      rw [e3]
      exact ⟨(by simp [own_kind, hc2, hc11]), N0, rfl⟩
theorem d4_0 : decode prog_22_method_4_code 0 = .ok (.aload_n 0, 1) := by decide +kernel
theorem d4_1 : decode prog_22_method_4_code 1 = .ok (.getfield 32, 3) := by decide +kernel
theorem d4_4 : decode prog_22_method_4_code 4 = .ok (.ireturn, 1) := by decide +kernel
theorem ef_rm4 (m : MethodId) (a1 : Addr) : entryFrame m #[(.ref a1)] 1 = mkF m 0 #[.val (.ref a1)] [] := by first | (simp [entryFrame, mkF, argsToLocals, Value.category]; done) | rfl
def Q_rm4 (Z : State) (wV : Addr) (w1 : Addr) (w2 : Addr) (w3 : Addr) (k_wV : ClassId) (a1 : Addr) (n : Int32) (h0 : Heap) (n0 : Nat) (v : Option Value) (h : Heap) (L : List Loc) : Prop := v = some (.int n) ∧ Fr n0 L ∧ h = h0
set_option maxRecDepth 65536 in
set_option maxHeartbeats 40000000 in
theorem rm4 (l : Launch) (Z : State) (a0 : Array Value) (hw : ∀ d ∈ tables_1, d.before a0 Z = true) (ws : List Jvm.Cond) (wV : Addr) (w1 : Addr) (w2 : Addr) (w3 : Addr) (k_wV : ClassId) (G : own_G Z wV w1 w2 w3 k_wV) (a1 : Addr) (n : Int32) (h0 : Heap) (n0 : Nat) (Z0 : n0 ≤ h0.size) (O0 : Old Z n0 h0) (F : Fld Z h0 a1 "com/example/renewl/renewl/Step$Kind" "number" "I" (.int n)) :
    MetFree l (⟨"com/example/renewl/renewl/Step$Kind", "number", "()I"⟩ : MethodName) (head1 (Jvm.Cond.code (⟨"com/example/renewl/renewl/Step$Kind", "number", "()I"⟩ : MethodName) prog_22_method_4_code 1 (some .int) :: ws) ({ frames := 0, cells := 0, slots := 0, locals := 0 } : Room)) (fun a U => a = #[(.ref a1)] ∧ Z.Warmed39 U.vm ∧ U.heap = h0) (fun _ _ _ _ _ => True) (fun _ U o U' => ∃ v L, o = .returned v ∧ Q_rm4 Z wV w1 w2 w3 k_wV a1 n h0 n0 v U'.heap L ∧ FrameEnd U o U' L ({ frames := 0, cells := 0, slots := 0, locals := 0 } : Room).cells ({ frames := 0, cells := 0, slots := 0, locals := 0 } : Room).slots) := by
  refine MetFree.of_bodySF (plainFor_of_name pn_2) hisR ?_
  intro p e s m args below meth c s₁ Bd hml0 hP hK
  obtain ⟨rfl, hZ, hh⟩ := hP
  have hx := Bd.exec
  have hby := Bd.bytes
  have hml : c.maxLocals = 1 := hml0
  have hown : s.vm.findClass "com/example/renewl/renewl/Step$Kind" = some m.cls := findClass_of_methodNamed Bd.named
  have hnm := (name_of_methodNamed Bd.named Bd.method).1
  have X0 : Stand p l e ({ frames := 0, cells := 0, slots := 0, locals := 0 } : Room) s m #[(.ref a1)] below meth c s₁ [] 0 0 := Stand.of_body Bd
  have e0 : s₁.heap = h0 := by rw [← hh, Bd.state]; rfl
  have N0 := Fr.nil n0
  have K0 := Keep.refl h0 ([] : List Addr)
  have G_ := G
  obtain ⟨S_Step_Kind_VALUES, E_wV, S_Step_Kind_REMINDER, E_w1, S_Step_Kind_CHARGE, E_w2, S_Step_Kind_EXPIRY, E_w3, F_number_w1, F_number_w2, F_number_w3, V_wV, G_end⟩ := G_
  change own_Go p e below _ _
  refine own_go (B := s₁.setTop (mkF m 0 #[.val (.ref a1)] [])) (fun _ k => castTop (ef_rm4 m a1) k) ?_
  refine own_go (B := s₁.setTop (mkF m 1 #[.val (.ref a1)] [(.ref a1)])) (fun _ k => XS.aloadN X0.here hx rfl (hb hby d4_0) rfl rfl k) ?_
  obtain ⟨T1, X1, e1, st1⟩ := getF X0 hx hZ hown (host := "") (Or.inl (hw _ (List.mem_of_getElem? (i := 23) rfl))) Via.refl e0 F (g := (mkF m 1 #[.val (.ref a1)] [(.ref a1)])) rfl rfl (hb hby d4_1)
  refine own_go (B := T1.setTop (mkF m 4 #[.val (.ref a1)] [(.int n)])) (st1) ?_
  obtain ⟨fs, hr, hrun, hended, hW, hsame⟩ := X1.leave (v := some (.int n)) (fun h => by rw [Bd.returns] at h; cases h)
  refine ⟨_, _, retI X1 hx Bd.returns (hb hby d4_4) hr, hrun, hended, _, _, rfl, ?_, ⟨_, rfl⟩, hW, hsame.mono (by decide) (by decide)⟩
  show Q_rm4 Z wV w1 w2 w3 k_wV a1 n h0 n0 _ T1.heap _
  rw [e1]
  exact ⟨rfl, N0, rfl⟩
theorem pd_1 : parseMethodDescriptor "(I)Lcom/example/renewl/renewl/Step$Kind;" = some ⟨[.int], some (.object "com/example/renewl/renewl/Step$Kind")⟩ := by decide +kernel
theorem pd_2 : parseMethodDescriptor "()I" = some ⟨[], some .int⟩ := by decide +kernel
theorem ef_rm0 (m : MethodId) (p0 : Int32) : entryFrame m #[(.int p0)] maxLocals = mkF m 0 #[.val (.int p0), .unset, .unset] [] := by first | (simp [entryFrame, mkF, argsToLocals, Value.category, maxLocals]; done) | rfl
def Q_rm0 (Z : State) (wV : Addr) (w1 : Addr) (w2 : Addr) (w3 : Addr) (k_wV : ClassId) (p0 : Int32) (h0 : Heap) (n0 : Nat) (v : Option Value) (h : Heap) (L : List Loc) : Prop := v = some (.int (1 : Int32)) ∧ Fr n0 L
set_option maxRecDepth 65536 in
set_option maxHeartbeats 40000000 in
theorem rm0 (l : Launch) (Z : State) (a0 : Array Value) (hw : ∀ d ∈ tables_1, d.before a0 Z = true) (ws : List Jvm.Cond) (wV : Addr) (w1 : Addr) (w2 : Addr) (w3 : Addr) (k_wV : ClassId) (G : own_G Z wV w1 w2 w3 k_wV) (p0 : Int32) (h0 : Heap) (n0 : Nat) (Z0 : n0 ≤ h0.size) (O0 : Old Z n0 h0) :
    MetFree l x (head1 (Jvm.Cond.code x code maxLocals ret :: ws) room_1) (fun a U => a = #[(.int p0)] ∧ Z.Warmed39 U.vm ∧ U.heap = h0) (fun _ _ _ _ _ => True) (fun _ U o U' => ∃ v L, o = .returned v ∧ Q_rm0 Z wV w1 w2 w3 k_wV p0 h0 n0 v U'.heap L ∧ FrameEnd U o U' L room_1.cells room_1.slots) := by
  refine MetFree.of_bodySF (plainFor_of_name pn_3) hisR ?_
  intro p e s m args below meth c s₁ Bd hml0 hP hK
  obtain ⟨rfl, hZ, hh⟩ := hP
  have hx := Bd.exec
  have hby := Bd.bytes
  have hml : c.maxLocals = 3 := hml0
  have hown : s.vm.findClass "com/example/renewl/renewl/KindOfNumberPinLaw" = some m.cls := findClass_of_methodNamed Bd.named
  have hnm := (name_of_methodNamed Bd.named Bd.method).1
  have X0 : Stand p l e room_1 s m #[(.int p0)] below meth c s₁ [] 0 0 := Stand.of_body Bd
  have e0 : s₁.heap = h0 := by rw [← hh, Bd.state]; rfl
  have N0 := Fr.nil n0
  have K0 := Keep.refl h0 ([] : List Addr)
  have G_ := G
  obtain ⟨S_Step_Kind_VALUES, E_wV, S_Step_Kind_REMINDER, E_w1, S_Step_Kind_CHARGE, E_w2, S_Step_Kind_EXPIRY, E_w3, F_number_w1, F_number_w2, F_number_w3, V_wV, G_end⟩ := G_
  change own_Go p e below _ _
  refine own_go (B := s₁.setTop (mkF m 0 #[.val (.int p0), .unset, .unset] [])) (fun _ k => castTop (ef_rm0 m p0) k) ?_
  refine own_go (B := s₁.setTop (mkF m 1 #[.val (.int p0), .unset, .unset] [(.int p0)])) (fun _ k => XS.iloadN X0.here hx rfl (hb hby at_0) rfl k) ?_
  refine own_go (B := s₁.setTop (mkF m 3 #[.val (.int p0), .unset, .unset] [(.int (2147483647 : Int32)), (.int p0)])) (X0.ldcInt hx hown (mvT hZ (hw _ (List.mem_of_getElem? (i := 0) rfl))) (g := (mkF m 1 #[.val (.int p0), .unset, .unset] [(.int p0)])) rfl (hb hby at_1)) ?_
  refine own_go (B := s₁.setTop (mkF m 4 #[.val (.int p0), .unset, .unset] [(.int (p0 &&& (2147483647 : Int32)))])) (fun _ k => XS.iand X0.here hx rfl (hb hby at_3) rfl k) ?_
  refine own_go (B := s₁.setTop (mkF m 5 #[.val (.int p0), .unset, .unset] [(.int (3 : Int32)), (.int (p0 &&& (2147483647 : Int32)))])) (fun _ k => XS.iconst X0.here hx rfl (hb hby at_4) k) ?_
  refine own_go (B := s₁.setTop (mkF m 6 #[.val (.int p0), .unset, .unset] [(.int ((p0 &&& (2147483647 : Int32)) - ((p0 &&& (2147483647 : Int32)) / (3 : Int32)) * (3 : Int32)))])) (fun _ k => XS.irem X0.here hx rfl (hb hby at_5) rfl (by decide) k) ?_
  rw [irem_eq_mod (p0 &&& (2147483647 : Int32)) (3 : Int32)]
  refine own_go (B := s₁.setTop (mkF m 7 #[.val (.int p0), .unset, .unset] [(.int (1 : Int32)), (.int ((p0 &&& (2147483647 : Int32)) % (3 : Int32)))])) (fun _ k => XS.iconst X0.here hx rfl (hb hby at_6) k) ?_
  refine own_go (B := s₁.setTop (mkF m 8 #[.val (.int p0), .unset, .unset] [(.int (((p0 &&& (2147483647 : Int32)) % (3 : Int32)) + (1 : Int32)))])) (fun _ k => XS.iadd X0.here hx rfl (hb hby at_7) rfl k) ?_
  generalize hv8 : (((p0 &&& (2147483647 : Int32)) % (3 : Int32)) + (1 : Int32)) = v8
  refine own_go (B := s₁.setTop (mkF m 9 #[.val (.int p0), .val (.int v8), .unset] [])) (fun _ k => XS.istoreN X0.here hx rfl (hb hby at_8) rfl (l' := #[.val (.int p0), .val (.int v8), .unset]) rfl k) ?_
  refine own_go (B := s₁.setTop (mkF m 10 #[.val (.int p0), .val (.int v8), .unset] [(.int v8)])) (fun _ k => XS.iloadN X0.here hx rfl (hb hby at_9) rfl k) ?_
  obtain ⟨_, _, ⟨T1, L1, k1, n1⟩, -, X1, ⟨Lc1, hQ1, l1, y1, z1⟩, st1⟩ := Jvm.LawKit.callS X0 hx (y := (⟨"com/example/renewl/renewl/Step$Kind", "ofNumber", "(I)Lcom/example/renewl/renewl/Step$Kind;"⟩ : MethodName)) hown (mvT hZ (hw _ (List.mem_of_getElem? (i := 1) rfl))) (mvT hZ (hw _ (List.mem_of_getElem? (i := 2) rfl))) (mvT hZ (hw _ (List.mem_of_getElem? (i := 3) rfl))) (mvT hZ (hw _ (List.mem_of_getElem? (i := 4) rfl))) (by decide) (backOf (W := 0) (rm1 l Z a0 hw [] wV w1 w2 w3 k_wV G v8 h0 n0 (Nat.le_trans Z0 K0.1) O0 (hv8 ▸ own_rng p0)) hZ (hw _ (List.mem_of_getElem? (i := 4) rfl)) (hw _ (List.mem_of_getElem? (i := 3) rfl)) (by decide) (by decide)) (g := (mkF m 10 #[.val (.int p0), .val (.int v8), .unset] [(.int v8)])) rfl (by rw [hml]; rfl) (argsL := [(.int v8)]) (rest := []) (lenOf pd_1 rfl) rfl (by show 2 * 0 + _ ≤ _; exact Nat.le_of_eq rfl) (hb hby at_10) (fun _ _ => ⟨rfl, e0, (by decide : 0 + 1 ≤ 16), (by decide : 0 + 3 ≤ 128)⟩)
  dsimp only [Pt.U, Pt.locs, Pt.cells, Pt.slots] at X1 l1 y1 z1 st1 hQ1
  subst l1 y1 z1
  obtain ⟨rfl, N1q, K1⟩ := hQ1
  have N1 := Fr.app N0 N1q
  have O1 := O0.keep K1 all0
  have K1' : Keep h0 T1.heap ([] : List Addr) := K0.trans K1 all0
  refine own_go (B := T1.setTop (mkF m 13 #[.val (.int p0), .val (.int v8), .unset] [(.ref (own_kind v8 w1 w2 w3))])) (st1) ?_
  generalize hkk : own_kind v8 w1 w2 w3 = kk
  have hE : Exa Z Z.heap kk "com/example/renewl/renewl/Step$Kind" ∧ Fld Z Z.heap kk "com/example/renewl/renewl/Step$Kind" "number" "I" (.int v8) := by
    rcases (hv8 ▸ own_rng p0 : v8 = 1 ∨ v8 = 2 ∨ v8 = 3) with e | e | e <;> subst e <;> subst hkk
    · exact ⟨E_w1, F_number_w1⟩
    · exact ⟨E_w2, F_number_w2⟩
    · exact ⟨E_w3, F_number_w3⟩
  obtain ⟨hE1, hE2⟩ := hE
  refine own_go (B := T1.setTop (mkF m 14 #[.val (.int p0), .val (.int v8), .val (.ref kk)] [])) (fun _ k => XS.astoreN X1.here hx rfl (hb hby at_13) rfl rfl (l' := #[.val (.int p0), .val (.int v8), .val (.ref kk)]) rfl k) ?_
  refine own_go (B := T1.setTop (mkF m 15 #[.val (.int p0), .val (.int v8), .val (.ref kk)] [(.ref kk)])) (fun _ k => XS.aloadN X1.here hx rfl (hb hby at_14) rfl rfl k) ?_
  refine own_go (B := T1.setTop (mkF m 16 #[.val (.int p0), .val (.int v8), .val (.ref kk)] [(.int v8), (.ref kk)])) (fun _ k => XS.iloadN X1.here hx rfl (hb hby at_15) rfl k) ?_
  obtain ⟨_, _, ⟨T2, L2, k2, n2⟩, -, X2, ⟨Lc2, hQ2, l2, y2, z2⟩, st2⟩ := Jvm.LawKit.callS X1 hx (y := (⟨"com/example/renewl/renewl/KindOfNumberPinLaw", "expected", "(I)Lcom/example/renewl/renewl/Step$Kind;"⟩ : MethodName)) hown (mvT hZ (hw _ (List.mem_of_getElem? (i := 25) rfl))) (mvT hZ (hw _ (List.mem_of_getElem? (i := 26) rfl))) (mvT hZ (hw _ (List.mem_of_getElem? (i := 27) rfl))) (mvT hZ (hw _ (List.mem_of_getElem? (i := 28) rfl))) (by decide) (backOf (W := 1) (rm3 l Z a0 hw [] wV w1 w2 w3 k_wV G v8 T1.heap n0 (Nat.le_trans Z0 K1'.1) O1 ) hZ (hw _ (List.mem_of_getElem? (i := 28) rfl)) (hw _ (List.mem_of_getElem? (i := 27) rfl)) (by decide) (by decide)) (g := (mkF m 16 #[.val (.int p0), .val (.int v8), .val (.ref kk)] [(.int v8), (.ref kk)])) rfl (by rw [hml]; rfl) (argsL := [(.int v8)]) (rest := [(.ref kk)]) (lenOf pd_1 rfl) rfl (by show 2 * 0 + _ ≤ _; exact Nat.le_of_eq rfl) (hb hby at_16) (fun _ _ => ⟨rfl, rfl, (by decide : 1 + 0 ≤ 16), (by decide : 3 + 0 ≤ 128)⟩)
  dsimp only [Pt.U, Pt.locs, Pt.cells, Pt.slots] at X2 l2 y2 z2 st2 hQ2
  subst l2 y2 z2
  obtain ⟨rfl, N2q, K2⟩ := hQ2
  have N2 := Fr.app N1 N2q
  have e2 : T2.heap = T1.heap := K2
  refine own_go (B := T2.setTop (mkF m 19 #[.val (.int p0), .val (.int v8), .val (.ref kk)] [(.ref (own_kind v8 w1 w2 w3)), (.ref kk)])) (st2) ?_
  rw [hkk]
  refine own_go (B := T2.setTop (mkF m 22 #[.val (.int p0), .val (.int v8), .val (.ref kk)] [])) (fun _ k => Jvm.RoadKit.acmp (g := (mkF m 19 #[.val (.int p0), .val (.int v8), .val (.ref kk)] [(.ref kk), (.ref kk)])) X2 hx rfl rfl rfl (pc0 := 19) (pc' := 22) (same := true) rfl (hb hby at_19) rfl (decide_eq_true rfl) (by decide) (by decide) k) ?_
  refine own_go (B := T2.setTop (mkF m 23 #[.val (.int p0), .val (.int v8), .val (.ref kk)] [(.ref kk)])) (fun _ k => XS.aloadN X2.here hx rfl (hb hby at_22) rfl rfl k) ?_
  obtain ⟨cq3, kq3, q3a, q3b, q3c⟩ := isOf hZ e2 (hE1.ext O1.2)
  obtain ⟨_, _, ⟨T3, L3, k3, n3⟩, -, X3, ⟨Lc3, hQ3, l3, y3, z3⟩, st3⟩ := X2.virtualBack hx (y := (⟨"com/example/renewl/renewl/Step$Kind", "number", "()I"⟩ : MethodName)) (z := (⟨"com/example/renewl/renewl/Step$Kind", "number", "()I"⟩ : MethodName)) hown (mvT hZ (hw _ (List.mem_of_getElem? (i := 30) rfl))) (mvT hZ (hw _ (List.mem_of_getElem? (i := 31) rfl))) (notFace_of_selects (args := #[]) (mvT hZ (hw _ (List.mem_of_getElem? (i := 33) rfl)))) (mvT hZ (hw _ (List.mem_of_getElem? (i := 33) rfl))) (mvT hZ (hw _ (List.mem_of_getElem? (i := 32) rfl))) (by decide) (backOf (W := 0) (rm4 l Z a0 hw [] wV w1 w2 w3 k_wV G kk v8 T1.heap n0 (Nat.le_trans Z0 K1'.1) O1 (hE2.ext O1.2)) hZ (hw _ (List.mem_of_getElem? (i := 34) rfl)) (hw _ (List.mem_of_getElem? (i := 3) rfl)) (by decide) (by decide)) q3a q3c (g := (mkF m 23 #[.val (.int p0), .val (.int v8), .val (.ref kk)] [(.ref kk)])) rfl (by rw [hml]; rfl) (Steps.refl _) (argsL := []) (rest := []) (lenOf pd_2 rfl) rfl (by show 2 * 0 + _ ≤ _; exact Nat.le_of_eq rfl) (hb hby at_23) (fun _ _ => ⟨rfl, e2, (by decide : 1 + 0 ≤ 16), (by decide : 3 + 0 ≤ 128)⟩)
  dsimp only [Pt.U, Pt.locs, Pt.cells, Pt.slots] at X3 l3 y3 z3 st3 hQ3
  subst l3 y3 z3
  obtain ⟨rfl, N3q, K3⟩ := hQ3
  have N3 := Fr.app N2 N3q
  have e3 : T3.heap = T1.heap := K3
  refine own_go (B := T3.setTop (mkF m 26 #[.val (.int p0), .val (.int v8), .val (.ref kk)] [(.int v8)])) (fun _ k => st3.trans k) ?_
  refine own_go (B := T3.setTop (mkF m 27 #[.val (.int p0), .val (.int v8), .val (.ref kk)] [(.int v8), (.int v8)])) (fun _ k => XS.iloadN X3.here hx rfl (hb hby at_26) rfl k) ?_
  refine own_go (B := T3.setTop (mkF m 30 #[.val (.int p0), .val (.int v8), .val (.ref kk)] [])) (fun _ k => XS.icmpNo X3.here hx rfl (hb hby at_27) rfl (teq rfl).2 k) ?_
  refine own_go (B := T3.setTop (mkF m 31 #[.val (.int p0), .val (.int v8), .val (.ref kk)] [(.int (1 : Int32))])) (fun _ k => XS.iconst X3.here hx rfl (hb hby at_30) k) ?_
  refine own_go (B := T3.setTop (mkF m 35 #[.val (.int p0), .val (.int v8), .val (.ref kk)] [(.int (1 : Int32))])) (fun _ k => XS.goto X3.here hx rfl (pc0 := 31) (pc' := 35) rfl (hb hby at_31) (by decide) (by decide) k) ?_
  obtain ⟨fs, hr, hrun, hended, hW, hsame⟩ := X3.leave (v := some (.int (nar .boolean (1 : Int32)))) (fun h => by rw [Bd.returns] at h; cases h)
  refine ⟨_, _, retN X3 hx (t := .boolean) Bd.returns (by simp) (hb hby at_35) hr, hrun, hended, _, _, rfl, ?_, ⟨_, rfl⟩, hW, hsame.mono (by decide) (by decide)⟩
  show Q_rm0 Z wV w1 w2 w3 k_wV p0 h0 n0 _ T3.heap _
  rw [e3]
  exact ⟨rfl, N3⟩
set_option maxRecDepth 65536 in
set_option maxHeartbeats 40000000 in
theorem comes_1 {Post : Tables → Env → Array Value → State → Outcome → State → Prop} (hpost : ∀ tb e args s v u, (limb_1_1.after args s (.returned v) u = true ∧ limb_1_2.after args s (.returned v) u = true ∧ True) → FrameEnd s (.returned v) u (Jvm.fieldLocs frame_1_writes args s ++ Jvm.arrayLocs frame_1_arrays args s ++ Jvm.staticLocs frame_1_statics s) 16 128 → Post tb e args s (.returned v) u) :
    ArmFor flags0 classFile x code maxLocals ret World_1 tables_1 room_1 Calls_1 rest_1 Pre_1 Post := by
  intro l hfl _ _ p e ha hc hk s m args below hf hA hF happ hP
  obtain ⟨hcalls, hrest, hpre⟩ := hP
  obtain ⟨-, -, -, hnamed, -, -, -, hat⟩ := (Spec.applies_iff hf).mp happ
  obtain ⟨hg, hn⟩ := and_e (Cond.before_iff.mp (show (Jvm.Cond.and given_1 narrow_1).before args s = true from hpre))
  obtain ⟨hcount, hg1⟩ := and_e hg
  obtain ⟨w0, rfl⟩ : ∃ w0 : Value, args = #[w0] := by
    have hs : args.size = 1 := by simpa [Cond.value, given_1] using hcount
    obtain ⟨L⟩ := args
    match L, hs with
    | [w0], _ => exact ⟨w0, rfl⟩
  have hw := fun d (hd : d ∈ tables_1) => atoms_spec (ws := Jvm.Cond.code x code maxLocals ret :: tables_1) hat d (List.mem_cons_of_mem _ hd)
  have hfit : Fit s := fun {y c} hc i hi => by
    obtain ⟨ha, rfl⟩ := Array.getElem?_eq_some_iff.mp hc
    have q := List.all_eq_true.mp ((Array.all_eq_true_iff_forall_mem.mp hF) _ (Array.getElem_mem ha)) i (List.mem_range.mpr hi)
    simpa [Array.getElem?_eq_getElem hi] using q
  obtain ⟨i0, ei0⟩ := is_v hg1
  obtain rfl : w0 = (.int i0) := Option.some.inj ei0
  obtain ⟨hN1, hN1'⟩ := and_e hn
  obtain ⟨hN2, hN2'⟩ := and_e hN1'
  obtain ⟨hN3, hN3'⟩ := and_e hN2'
  obtain ⟨hN4, hN4'⟩ := and_e hN3'
  obtain ⟨hN5, hN5'⟩ := and_e hN4'
  obtain ⟨hN6, hN6'⟩ := and_e hN5'
  obtain ⟨hN7, hN7'⟩ := and_e hN6'
  obtain ⟨hN8, hN8'⟩ := and_e hN7'
  obtain ⟨hN9, hN9'⟩ := and_e hN8'
  obtain ⟨hN10, hN10'⟩ := and_e hN9'
  obtain ⟨hN11, hN11'⟩ := and_e hN10'
  obtain ⟨wV, ev_wV⟩ := arr_v hN1
  have S_Step_Kind_VALUES := Sta.start ev_wV (Or.inr ⟨(hw _ (List.mem_of_getElem? (i := 3) rfl)), (hw _ (List.mem_of_getElem? (i := 9) rfl))⟩)
  obtain ⟨cl_wV, Ar_wV⟩ := Arr.start ev_wV hN1
  have E_wV := Exa.start ev_wV hN2
  obtain ⟨w1, ev_w1⟩ := exa_v hN4
  have S_Step_Kind_REMINDER := Sta.start ev_w1 (Or.inr ⟨(hw _ (List.mem_of_getElem? (i := 3) rfl)), (hw _ (List.mem_of_getElem? (i := 17) rfl))⟩)
  have E_w1 := Exa.start ev_w1 hN4
  obtain ⟨w2, ev_w2⟩ := exa_v hN6
  have S_Step_Kind_CHARGE := Sta.start ev_w2 (Or.inr ⟨(hw _ (List.mem_of_getElem? (i := 3) rfl)), (hw _ (List.mem_of_getElem? (i := 18) rfl))⟩)
  have E_w2 := Exa.start ev_w2 hN6
  obtain ⟨w3, ev_w3⟩ := exa_v hN8
  have S_Step_Kind_EXPIRY := Sta.start ev_w3 (Or.inr ⟨(hw _ (List.mem_of_getElem? (i := 3) rfl)), (hw _ (List.mem_of_getElem? (i := 19) rfl))⟩)
  have E_w3 := Exa.start ev_w3 hN8
  have Ln_wV := own_len ev_wV Ar_wV hN3
  have El_wV_0 := own_el ev_wV Ar_wV (own_eqr ev_w1 hN5)
  have El_wV_1 := own_el ev_wV Ar_wV (own_eqr ev_w2 hN7)
  have El_wV_2 := own_el ev_wV Ar_wV (own_eqr ev_w3 hN9)
  have F_number_w1 := Fld.start ((fld_at ev_w1).symm.trans (eqv_i (y := 1) rfl hN10))
  have F_number_w2 := Fld.start ((fld_at ev_w2).symm.trans (eqv_i (y := 2) rfl hN11))
  have F_number_w3 := Fld.start ((fld_at ev_w3).symm.trans (eqv_i (y := 3) rfl hN11'))
  have V_wV : Arv s s.heap wV cl_wV.cls (.object "com/example/renewl/renewl/Step$Kind") (3 : Int32) [(.ref w1), (.ref w2), (.ref w3)] .null := Arv.start hfit Ar_wV Ln_wV.1 Ln_wV.2 (by decide) rfl ⟨El_wV_0, El_wV_1, El_wV_2, trivial⟩
  obtain ⟨n, o, h1, h2, h3, _, L, rfl, ⟨rfl, N⟩, hq⟩ := rm0 l s _ hw tables_1 wV w1 w2 w3 cl_wV.cls ⟨S_Step_Kind_VALUES, E_wV, S_Step_Kind_REMINDER, E_w1, S_Step_Kind_CHARGE, E_w2, S_Step_Kind_EXPIRY, E_w3, F_number_w1, F_number_w2, F_number_w3, V_wV, trivial⟩ i0 s.heap s.heap.size (Nat.le_refl _) (Old.start s)  p e ha hc hk s m _ below hf ((Spec.applies_iff_loose hf).mp happ).1 ⟨rfl, State.Warmed39.refl s, rfl⟩ trivial
  refine ⟨n, _, h1, h2, h3, hpost _ _ _ _ _ _ ⟨Cond.after_iff.mpr rfl, Cond.after_iff.mpr (eq_i res_at (Term.int_eval (1)) rfl), trivial⟩ ⟨hq.1, hq.2.1, (hq.2.2.sift fun y hy => Or.inr (N y hy)).mono (by decide) (by decide)⟩⟩
theorem main_1_1 : Claimed_1_1 := comes_1 fun _ _ _ _ _ _ h hF => ⟨h.1, hF⟩
theorem main_1_2 : Claimed_1_2 := comes_1 fun _ _ _ _ _ _ h hF => ⟨h.2.1, hF⟩
end Jvm.Pilot.@@N@@
namespace Jvm.Pilot.@@N@@
open Jvm Jvm.ClassFile Sem Op Lib Jvm.Free Jvm.Stand Jvm.Pilot.@@N@@.Jvm.D
/-! MADE BY PROGRAM (witnessworld.py) out of the Statement's table words and the real class files: 13 classes; the members and pool entries that the words name. The judged class is class 1, her method 2. -/
namespace start1
open Jvm.ClassFile
def u (s : String) : CpInfo := .utf8 (stringToUtf16 s)
/-- a pool by its gaps: so many unusable entries, then the entry; so many at the end -/
def gap : Nat → List CpInfo → List CpInfo
  | 0, r => r
  | n + 1, r => .unusable :: gap n r
def poolList (es : List (Nat × CpInfo)) (last : Nat) : List CpInfo := es.foldr (fun e r => gap e.1 (e.2 :: r)) (gap last [])
def pool (es : List (Nat × CpInfo)) (last : Nat) : Array CpInfo := ⟨poolList es last⟩
def fileOf (pool : Array CpInfo) (this : Nat) (attrs : Array Attribute := #[]) (ms : Array MethodInfo := #[]) (fl : Nat := 33) (sup : Nat := 0) (ifs : Array Nat := #[]) (fds : Array FieldInfo := #[]) : ClassFile where
  minorVersion := 0
  majorVersion := 65
  constantPool := pool
  accessFlags := fl
  thisClass := this
  superClass := sup
  interfaces := ifs
  fields := fds
  methods := ms
  attributes := attrs
def plain (name : String) (sup : Option ClassId) : Class where
  name := name
  kind := .ordinary
  loader := none
  accessFlags := 33
  super := sup
  interfaces := #[]
  cf := none
  fields := #[]
  methods := #[]
  instanceTypes := #[]
  staticTypes := #[]
  resolved := #[]
  callSites := []
  init := .initialized
  statics := none
  mirror := none

def pool0 : Array CpInfo := pool [(5, u "<init>"), (0, u "()V"), (1, .class_ 10), (1, u "java/lang/Object"), (85, u "clone"), (0, u "()Ljava/lang/Object;")] 26

def k0m0 : Method := { name := "<init>", desc := "()V", sig := { parameters := [], returnType := none }, accessFlags := 1, code := none }
def k0m1 : Method := { name := "clone", desc := "()Ljava/lang/Object;", sig := { parameters := [], returnType := some (.object "java/lang/Object") }, accessFlags := 260, code := none }
/-- java/lang/Object -/
def k0 : Class := { plain "java/lang/Object" none with
  accessFlags := 33
  interfaces := #[]
  cf := some (fileOf pool0 8 #[] #[{ accessFlags := 1, nameIndex := 5, descriptorIndex := 6, attributes := #[] }, { accessFlags := 260, nameIndex := 96, descriptorIndex := 97, attributes := #[] }] 33 0 #[] #[])
  fields := #[]
  methods := #[k0m0, k0m1]
  instanceTypes := #[]
  staticTypes := #[]
  resolved := Array.replicate 124 none
  statics := none }

def pool1 : Array CpInfo := pool [(2, .class_ 4), (1, u "java/lang/Object"), (0, u "<init>"), (0, u "()V"), (0, .fieldref 8 9), (0, .class_ 10), (0, .nameAndType 11 12), (0, u "com/example/renewl/renewl/Step$Kind"), (0, u "REMINDER"), (0, u "Lcom/example/renewl/renewl/Step$Kind;"), (0, .fieldref 8 14), (0, .nameAndType 15 12), (0, u "CHARGE"), (0, .fieldref 8 17), (0, .nameAndType 18 12), (0, u "EXPIRY"), (0, .integer 2147483647), (0, .methodref 8 21), (0, .nameAndType 22 23), (0, u "ofNumber"), (0, u "(I)Lcom/example/renewl/renewl/Step$Kind;"), (0, .methodref 25 26), (0, .class_ 27), (0, .nameAndType 28 23), (0, u "com/example/renewl/renewl/KindOfNumberPinLaw"), (0, u "expected"), (0, .methodref 8 30), (0, .nameAndType 31 32), (0, u "number"), (0, u "()I"), (3, u "law"), (0, u "(I)Z")] 6

def k1m0 : Method := { name := "<init>", desc := "()V", sig := { parameters := [], returnType := none }, accessFlags := 2, code := none }
def k1c1 : Code := { maxStack := 2, maxLocals := 1, code := method_2_code, exceptionTable := #[], attributes := #[] }
def k1m1 : Method := { name := "expected", desc := "(I)Lcom/example/renewl/renewl/Step$Kind;", sig := { parameters := [.int], returnType := some (.object "com/example/renewl/renewl/Step$Kind") }, accessFlags := 10, code := some k1c1 }
def k1c2 : Code := { maxStack := 2, maxLocals := 3, code := code, exceptionTable := #[], attributes := #[] }
def k1m2 : Method := { name := "law", desc := "(I)Z", sig := { parameters := [.int], returnType := some .boolean }, accessFlags := 9, code := some k1c2 }
/-- com/example/renewl/renewl/KindOfNumberPinLaw -/
def k1 : Class := { plain "com/example/renewl/renewl/KindOfNumberPinLaw" (some 0) with
  accessFlags := 49
  interfaces := #[]
  cf := some (fileOf pool1 25 #[] #[{ accessFlags := 2, nameIndex := 5, descriptorIndex := 6, attributes := #[] }, { accessFlags := 10, nameIndex := 28, descriptorIndex := 23, attributes := #[] }, { accessFlags := 9, nameIndex := 36, descriptorIndex := 37, attributes := #[] }] 49 2 #[] #[])
  fields := #[]
  methods := #[k1m0, k1m1, k1m2]
  instanceTypes := #[]
  staticTypes := #[]
  resolved := Array.replicate 44 none
  statics := none }

def pool2 : Array CpInfo := pool [(1, .class_ 2), (0, u "java/lang/constant/Constable"), (0, .class_ 4), (0, u "java/lang/Object")] 6

/-- java/lang/constant/Constable -/
def k2 : Class := { plain "java/lang/constant/Constable" (some 0) with
  accessFlags := 1537
  interfaces := #[]
  cf := some (fileOf pool2 1 #[] #[] 1537 3 #[] #[])
  fields := #[]
  methods := #[]
  instanceTypes := #[]
  staticTypes := #[]
  resolved := Array.replicate 11 none
  statics := none }

def pool3 : Array CpInfo := pool [(1, .class_ 2), (0, u "java/lang/Comparable"), (0, .class_ 4), (0, u "java/lang/Object")] 7

/-- java/lang/Comparable -/
def k3 : Class := { plain "java/lang/Comparable" (some 0) with
  accessFlags := 1537
  interfaces := #[]
  cf := some (fileOf pool3 1 #[] #[] 1537 3 #[] #[])
  fields := #[]
  methods := #[]
  instanceTypes := #[]
  staticTypes := #[]
  resolved := Array.replicate 12 none
  statics := none }

def pool4 : Array CpInfo := pool [(1, .class_ 2), (0, u "java/io/Serializable"), (0, .class_ 4), (0, u "java/lang/Object")] 2

/-- java/io/Serializable -/
def k4 : Class := { plain "java/io/Serializable" (some 0) with
  accessFlags := 1537
  interfaces := #[]
  cf := some (fileOf pool4 1 #[] #[] 1537 3 #[] #[])
  fields := #[]
  methods := #[]
  instanceTypes := #[]
  staticTypes := #[]
  resolved := Array.replicate 7 none
  statics := none }

def pool5 : Array CpInfo := pool [(2, .class_ 4), (1, u "java/lang/Enum"), (0, u "name"), (0, u "Ljava/lang/String;"), (2, u "ordinal"), (0, u "I"), (1, .class_ 14), (1, u "java/lang/Object"), (4, u "hash"), (86, .class_ 108), (1, u "java/lang/Enum$EnumDesc"), (2, .class_ 112), (0, u "java/lang/constant/Constable"), (0, .class_ 114), (0, u "java/lang/Comparable"), (0, .class_ 116), (0, u "java/io/Serializable")] 87

/-- java/lang/Enum -/
def k5 : Class := { plain "java/lang/Enum" (some 0) with
  accessFlags := 1057
  interfaces := #[2, 3, 4]
  cf := some (fileOf pool5 2 #[.nestMembers #[106]] #[] 1057 12 #[111, 113, 115] #[{ accessFlags := 18, nameIndex := 5, descriptorIndex := 6, attributes := #[] }, { accessFlags := 18, nameIndex := 9, descriptorIndex := 10, attributes := #[] }, { accessFlags := 2, nameIndex := 19, descriptorIndex := 10, attributes := #[] }])
  fields := #[{ name := "name", type := (.object "java/lang/String"), accessFlags := 18, slot := 0, constantValue := 0 }, { name := "ordinal", type := .int, accessFlags := 18, slot := 1, constantValue := 0 }, { name := "hash", type := .int, accessFlags := 2, slot := 2, constantValue := 0 }]
  methods := #[]
  instanceTypes := #[(.object "java/lang/String"), .int, .int]
  staticTypes := #[]
  resolved := Array.replicate 204 none
  statics := none }

def pool6 : Array CpInfo := pool [(1, .class_ 2), (0, u "com/example/renewl/renewl/Step$Kind"), (2, u "REMINDER"), (0, u "Lcom/example/renewl/renewl/Step$Kind;"), (2, u "CHARGE"), (2, u "EXPIRY"), (0, .fieldref 1 14), (0, .nameAndType 15 16), (0, u "$VALUES"), (0, u "[Lcom/example/renewl/renewl/Step$Kind;"), (0, .methodref 18 19), (0, .class_ 16), (0, .nameAndType 20 21), (0, u "clone"), (0, u "()Ljava/lang/Object;"), (1, .class_ 25), (1, u "java/lang/Enum"), (6, .fieldref 1 33), (0, .nameAndType 34 35), (0, u "number"), (0, u "I"), (0, .methodref 1 37), (0, .nameAndType 38 39), (0, u "values"), (0, u "()[Lcom/example/renewl/renewl/Step$Kind;"), (24, u "()I"), (0, u "ofNumber"), (0, u "(I)Lcom/example/renewl/renewl/Step$Kind;"), (7, .class_ 75), (0, u "com/example/renewl/renewl/Step")] 16

def k6c0 : Code := { maxStack := 1, maxLocals := 0, code := prog_22_method_1_code, exceptionTable := #[], attributes := #[] }
def k6m0 : Method := { name := "values", desc := "()[Lcom/example/renewl/renewl/Step$Kind;", sig := { parameters := [], returnType := some (.array (.object "com/example/renewl/renewl/Step$Kind")) }, accessFlags := 9, code := some k6c0 }
def k6c1 : Code := { maxStack := 1, maxLocals := 1, code := prog_22_method_4_code, exceptionTable := #[], attributes := #[] }
def k6m1 : Method := { name := "number", desc := "()I", sig := { parameters := [], returnType := some .int }, accessFlags := 0, code := some k6c1 }
def k6c2 : Code := { maxStack := 3, maxLocals := 5, code := prog_22_method_5_code, exceptionTable := #[], attributes := #[] }
def k6m2 : Method := { name := "ofNumber", desc := "(I)Lcom/example/renewl/renewl/Step$Kind;", sig := { parameters := [.int], returnType := some (.object "com/example/renewl/renewl/Step$Kind") }, accessFlags := 8, code := some k6c2 }
/-- com/example/renewl/renewl/Step$Kind -/
def k6 : Class := { plain "com/example/renewl/renewl/Step$Kind" (some 5) with
  accessFlags := 16432
  interfaces := #[]
  cf := some (fileOf pool6 1 #[.nestHost 74] #[{ accessFlags := 9, nameIndex := 38, descriptorIndex := 39, attributes := #[] }, { accessFlags := 0, nameIndex := 34, descriptorIndex := 64, attributes := #[] }, { accessFlags := 8, nameIndex := 65, descriptorIndex := 66, attributes := #[] }] 16432 23 #[] #[{ accessFlags := 16409, nameIndex := 5, descriptorIndex := 6, attributes := #[] }, { accessFlags := 16409, nameIndex := 9, descriptorIndex := 6, attributes := #[] }, { accessFlags := 16409, nameIndex := 12, descriptorIndex := 6, attributes := #[] }, { accessFlags := 18, nameIndex := 34, descriptorIndex := 35, attributes := #[] }, { accessFlags := 4122, nameIndex := 15, descriptorIndex := 16, attributes := #[] }])
  fields := #[{ name := "REMINDER", type := (.object "com/example/renewl/renewl/Step$Kind"), accessFlags := 16409, slot := 0, constantValue := 0 }, { name := "CHARGE", type := (.object "com/example/renewl/renewl/Step$Kind"), accessFlags := 16409, slot := 1, constantValue := 0 }, { name := "EXPIRY", type := (.object "com/example/renewl/renewl/Step$Kind"), accessFlags := 16409, slot := 2, constantValue := 0 }, { name := "number", type := .int, accessFlags := 18, slot := 3, constantValue := 0 }, { name := "$VALUES", type := (.array (.object "com/example/renewl/renewl/Step$Kind")), accessFlags := 4122, slot := 3, constantValue := 0 }]
  methods := #[k6m0, k6m1, k6m2]
  instanceTypes := #[(.object "java/lang/String"), .int, .int, .int]
  staticTypes := #[(.object "com/example/renewl/renewl/Step$Kind"), (.object "com/example/renewl/renewl/Step$Kind"), (.object "com/example/renewl/renewl/Step$Kind"), (.array (.object "com/example/renewl/renewl/Step$Kind"))]
  resolved := Array.replicate 92 none
  statics := some 0 }

def pool7 : Array CpInfo := pool [(1, .class_ 2), (0, u "java/lang/Cloneable"), (0, .class_ 4), (0, u "java/lang/Object")] 2

/-- java/lang/Cloneable -/
def k7 : Class := { plain "java/lang/Cloneable" (some 0) with
  accessFlags := 1537
  interfaces := #[]
  cf := some (fileOf pool7 1 #[] #[] 1537 3 #[] #[])
  fields := #[]
  methods := #[]
  instanceTypes := #[]
  staticTypes := #[]
  resolved := Array.replicate 7 none
  statics := none }

/-- the primitive byte -/
def k8 : Class := { plain "byte" none with kind := .primitive 'B', accessFlags := 0x411 }
/-- [B -/
def k9 : Class := { plain "[B" (some 0) with kind := .array 8 .byte, interfaces := #[7, 4], accessFlags := 1041 }

/-- the primitive int -/
def k10 : Class := { plain "int" none with kind := .primitive 'I', accessFlags := 0x411 }
/-- [I -/
def k11 : Class := { plain "[I" (some 0) with kind := .array 10 .int, interfaces := #[7, 4], accessFlags := 1041 }

/-- [Lcom/example/renewl/renewl/Step$Kind; -/
def k12 : Class := { plain "[Lcom/example/renewl/renewl/Step$Kind;" (some 0) with kind := .array 6 (.object "com/example/renewl/renewl/Step$Kind"), interfaces := #[7, 4], accessFlags := 1041 }

def heap : Heap := #[{ cls := 6, slots := #[.ref 2, .ref 3, .ref 4, .ref 1], vm := .statics 6 },
  { cls := 12, slots := #[.ref 2, .ref 3, .ref 4], vm := .none },
  { cls := 6, slots := #[.null, .int 0, .int 0, .int 1], vm := .none },
  { cls := 6, slots := #[.null, .int 0, .int 0, .int 2], vm := .none },
  { cls := 6, slots := #[.null, .int 0, .int 0, .int 3], vm := .none }]
def classes : Array Class := #[k0, k1, k2, k3, k4, k5, k6, k7, k8, k9, k10, k11, k12]
def interned : List (Array UInt16 × Addr) := []
def slotsUsed : Nat := 19
def theMethod : MethodId := ⟨1, 2⟩
def args0 : Array Value := #[.int 5]
def aboutOver (below : List Frame) : State where
  vm := { classes := classes, interned := interned.toArray }
  heap := heap
  slotsUsed := slotsUsed
  threads := #[{ frames := .invoking theMethod args0 :: below }]
def below0 : List Frame := [.native { method := ⟨0, 0⟩, args := #[] }]
def about1 : State := aboutOver below0
def p0 : Program := .bare "" "" ""
def e0 : Env := launch0.env 0 0 0
theorem w_frames : about1.frames = Frame.invoking theMethod args0 :: below0 := rfl
set_option maxRecDepth 65536 in
theorem w_args : argsFit about1.vm theMethod args0 = true := by decide +kernel
set_option maxRecDepth 65536 in
theorem w_heap : heapFits about1 = true := by decide +kernel
set_option maxRecDepth 65536 in
theorem w_runnable : about1.curStatus? = some .runnable := by decide +kernel
set_option maxRecDepth 65536 in
theorem w_alone : about1.alone = true := by decide +kernel
set_option maxRecDepth 65536 in
theorem w_named : about1.methodNamed? x = some theMethod := by decide +kernel
set_option maxRecDepth 65536 in
theorem w_hears : about1.hears theMethod below0 = true := by decide +kernel
set_option maxRecDepth 65536 in
theorem w_ripe : about1.ripe theMethod args0 below0 = true := by decide +kernel
theorem w_running : about1.status = .running := rfl
set_option maxRecDepth 65536 in
theorem w_room : about1.hasRoom e0.platform room_1 = true :=
  launch0.hasRoom_least _ room_1 (by decide +kernel) (by decide +kernel) (by decide +kernel) (by decide +kernel) (by decide +kernel) (by decide +kernel)
theorem allAtoms_all (ts : List Jvm.Cond) (a : Array Jvm.Value) (st : Jvm.State) : (allAtoms ts).before a st = ts.all (fun c => c.before a st) := by
  induction ts with
  | nil => rfl
  | cons c t ih =>
    show (Jvm.Cond.and c (allAtoms t)).before a st = _
    rw [Jvm.Cond.before_and, ih, List.all_cons]
def words1 : List Jvm.Cond := Jvm.Cond.code x code maxLocals ret :: tables_1
/-- a 'code' word, met by the world's own term for the bytes: nothing is compared byte by byte -/
theorem code_word {y : MethodName} {bytes : ByteArray} {mx : Nat} {rt : Option FieldType} {a : Array Value} {s : State} {m : MethodId} {meth : Method} {c : Code} (h1 : s.methodNamed? y = some m) (h2 : s.vm.method? m = some meth) (h3 : meth.code = some c) (h4 : c.code = bytes)
    (h5 : (c.maxLocals == mx && c.exceptionTable.isEmpty && decide (c.maxStack ≤ mostOperands) && decide (meth.sig.returnType = rt) && !meth.locks && decide (parseMethodDescriptor y.desc = some meth.sig)) = true) : (Jvm.Cond.code y bytes mx rt).before a s = true := by
  simp only [Bool.and_eq_true, beq_iff_eq, Bool.not_eq_true', decide_eq_true_eq] at h5
  obtain ⟨⟨⟨⟨⟨g1, g2⟩, g3⟩, g4⟩, g5⟩, g6⟩ := h5
  simp [Cond.before, Cond.holds, Cond.value, h1, h2, h3, h4, g1, g2, g3, g4, g5, g6]
def isCode : Jvm.Cond → Bool
  | .code _ _ _ _ => true
  | _ => false
theorem all_split {L : List Jvm.Cond} {P : Jvm.Cond → Bool} (h1 : L.all (fun c => isCode c || P c) = true) (h2 : ∀ c ∈ L.filter isCode, P c = true) : L.all P = true := by
  refine List.all_eq_true.mpr fun c hc => ?_
  have h := List.all_eq_true.mp h1 c hc
  rcases Bool.eq_false_or_eq_true (isCode c) with hi | hi
  · exact h2 c (List.mem_filter.mpr ⟨hc, hi⟩)
  · simpa [hi] using h
set_option maxRecDepth 65536 in
theorem w_c0 : (Jvm.Cond.code x code maxLocals ret).before args0 about1 = true := code_word (m := ⟨1, 2⟩) (meth := k1m2) (c := k1c2) (by decide +kernel) rfl rfl rfl (by decide +kernel)
set_option maxRecDepth 65536 in
theorem w_c1 : (Jvm.Cond.code ({ cls := "com/example/renewl/renewl/Step$Kind", name := "ofNumber", desc := "(I)Lcom/example/renewl/renewl/Step$Kind;" } : Jvm.MethodName) prog_22_method_5_code (5 : Nat) (Option.some (Jvm.ClassFile.FieldType.object "com/example/renewl/renewl/Step$Kind"))).before args0 about1 = true := code_word (m := ⟨6, 2⟩) (meth := k6m2) (c := k6c2) (by decide +kernel) rfl rfl rfl (by decide +kernel)
set_option maxRecDepth 65536 in
theorem w_c2 : (Jvm.Cond.code ({ cls := "com/example/renewl/renewl/Step$Kind", name := "values", desc := "()[Lcom/example/renewl/renewl/Step$Kind;" } : Jvm.MethodName) prog_22_method_1_code (0 : Nat) (Option.some (Jvm.ClassFile.FieldType.array (Jvm.ClassFile.FieldType.object "com/example/renewl/renewl/Step$Kind")))).before args0 about1 = true := code_word (m := ⟨6, 0⟩) (meth := k6m0) (c := k6c0) (by decide +kernel) rfl rfl rfl (by decide +kernel)
set_option maxRecDepth 65536 in
theorem w_c3 : (Jvm.Cond.code ({ cls := "com/example/renewl/renewl/KindOfNumberPinLaw", name := "expected", desc := "(I)Lcom/example/renewl/renewl/Step$Kind;" } : Jvm.MethodName) method_2_code (1 : Nat) (Option.some (Jvm.ClassFile.FieldType.object "com/example/renewl/renewl/Step$Kind"))).before args0 about1 = true := code_word (m := ⟨1, 1⟩) (meth := k1m1) (c := k1c1) (by decide +kernel) rfl rfl rfl (by decide +kernel)
set_option maxRecDepth 65536 in
theorem w_c4 : (Jvm.Cond.code ({ cls := "com/example/renewl/renewl/Step$Kind", name := "number", desc := "()I" } : Jvm.MethodName) prog_22_method_4_code (1 : Nat) (Option.some Jvm.ClassFile.FieldType.int)).before args0 about1 = true := code_word (m := ⟨6, 1⟩) (meth := k6m1) (c := k6c1) (by decide +kernel) rfl rfl rfl (by decide +kernel)
def codes1 : List Jvm.Cond := [Jvm.Cond.code x code maxLocals ret, Jvm.Cond.code ({ cls := "com/example/renewl/renewl/Step$Kind", name := "ofNumber", desc := "(I)Lcom/example/renewl/renewl/Step$Kind;" } : Jvm.MethodName) prog_22_method_5_code (5 : Nat) (Option.some (Jvm.ClassFile.FieldType.object "com/example/renewl/renewl/Step$Kind")), Jvm.Cond.code ({ cls := "com/example/renewl/renewl/Step$Kind", name := "values", desc := "()[Lcom/example/renewl/renewl/Step$Kind;" } : Jvm.MethodName) prog_22_method_1_code (0 : Nat) (Option.some (Jvm.ClassFile.FieldType.array (Jvm.ClassFile.FieldType.object "com/example/renewl/renewl/Step$Kind"))), Jvm.Cond.code ({ cls := "com/example/renewl/renewl/KindOfNumberPinLaw", name := "expected", desc := "(I)Lcom/example/renewl/renewl/Step$Kind;" } : Jvm.MethodName) method_2_code (1 : Nat) (Option.some (Jvm.ClassFile.FieldType.object "com/example/renewl/renewl/Step$Kind")), Jvm.Cond.code ({ cls := "com/example/renewl/renewl/Step$Kind", name := "number", desc := "()I" } : Jvm.MethodName) prog_22_method_4_code (1 : Nat) (Option.some Jvm.ClassFile.FieldType.int)]
set_option maxRecDepth 65536 in
theorem codes_eq : words1.filter isCode = codes1 := rfl
theorem w_codes : ∀ c ∈ words1.filter isCode, c.before args0 about1 = true := by
  rw [codes_eq]
  intro c hc
  simp only [codes1, List.mem_cons, List.not_mem_nil, or_false] at hc
  rcases hc with rfl | rfl | rfl | rfl | rfl
  · exact w_c0
  · exact w_c1
  · exact w_c2
  · exact w_c3
  · exact w_c4
set_option maxRecDepth 65536 in
theorem w_t1 : (words1.take 24).all (fun c => isCode c || c.before args0 about1) = true := by decide +kernel
set_option maxRecDepth 65536 in
theorem w_t2 : (words1.drop 24).all (fun c => isCode c || c.before args0 about1) = true := by decide +kernel
theorem w_tables : (allAtoms (Jvm.Cond.code x code maxLocals ret :: tables_1)).before args0 about1 = true := by
  rw [allAtoms_all]
  show words1.all (fun c => c.before args0 about1) = true
  refine all_split ?_ w_codes
  rw [← List.take_append_drop 24 words1, List.all_append, w_t1, w_t2]
  rfl
set_option maxRecDepth 65536 in
theorem w_case : (Jvm.Cond.and given_1 narrow_1).before args0 about1 = true := by decide +kernel
theorem w_applies : (headSpec (Jvm.Cond.code x code maxLocals ret :: tables_1) room_1).applies x e0.platform about1 = true :=
  (Spec.applies_iff w_frames).mpr ⟨w_running, w_runnable, w_alone, w_named, w_hears, w_ripe, w_room, w_tables⟩
theorem atStart : AtStart classFile x code maxLocals ret World_1 tables_1 room_1 Calls_1 rest_1 Pre_1 launch0 p0 e0 about1 theMethod args0 below0 :=
  ⟨lists_1, trivial, launch0.admits_env _ _ _, launch0.least_env, fairChoices_fair.cas, fairChoices_fair.clock, w_frames, w_args, w_heap, w_applies, trivial, trivial, w_case⟩
end start1
theorem witness_1 : WitnessClaimed_1 := ⟨start1.p0, start1.e0, start1.about1, start1.theMethod, start1.args0, start1.below0, start1.atStart⟩
end Jvm.Pilot.@@N@@
