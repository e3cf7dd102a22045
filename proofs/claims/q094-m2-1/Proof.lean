import JvmDerived
import JvmDerived.Pilot.@@N@@Statement
import JvmDerived.Pilot.@@N@@Code
set_option linter.unusedVariables false
set_option linter.unusedSimpArgs false
namespace Jvm.RoadKit
open Sem ClassFile Op Lib Jvm.Stand Jvm.Free Jvm.LawKit
section New
variable {p : Program} {l : Launch} {e : Env} {R : Room} {s : State} {m : MethodId} {args : Array Value} {below : List Frame} {meth : Method} {c : Code} {T : State} {locs : List Loc} {cells slots : Nat}
theorem retI (X : Stand p l e R s m args below meth c T locs cells slots) (hx : p.tables.exec = Jvm.exec) {pc : Nat} {Ls : Array Slot} {z : Int32} {rest : List Value} (hret : meth.sig.returnType = some .int) (hd : decode c.code pc = .ok (.ireturn, 1)) {fs : List Frame}
    (hl : ∀ (f : JFrame) (acts : List Action), f.method = m → f.locked = none → f.entered = [] → (doReturn e (T.setTop f) acts (some (.int z))).1 = T.setFrames fs) : Steps p.tables e below (T.setTop (mkF m pc Ls (.int z :: rest))) (T.setFrames fs) := by
  have hm' : T.vm.method? m = some meth := X.method'
  have hn : narrow .int (.int z) = .int z := rfl
  show Steps p.tables e below (T.setTop { method := m, pc := pc, locals := Ls, stack := _ :: rest, locked := none }) _
  jvm_step X.here [X.here.top, hx, hd, hm', hret, hn]
  first | (intro acts; rw [hl _ acts rfl rfl rfl]) | rw [hl _ _ rfl rfl rfl]
  exact Steps.refl _
end New
end Jvm.RoadKit
/- laws to paste: Road.eqW, Road.backV, Road.codOf (cut by pick.py; bodies as the Statement names them) -/
namespace Jvm.Pilot.@@N@@
namespace StrChars
open Jvm Sem ClassFile Op Lib Jvm.Stand Jvm.Free.XT Jvm.Free.ALB Jvm.Free.JM Jvm.Free
open Jvm.Lib.Cold (StaticIs)
/-- a char array whose places are chars -/
def Ch (a : Addr) (A : Cell) (U : State) : Prop := Arr .char a A U ∧ Typed .char A
theorem Ch.mv {a : Addr} {A : Cell} {U U' : State} (h : Ch a A U) (hal : U.vm.Alike U'.vm) (hh : U'.heap = U.heap) : Ch a A U' := ⟨h.1.mv hal hh, h.2⟩
theorem Ch.keep {a : Addr} {A : Cell} {U U' : State} (h : Ch a A U) (hal : U.vm.Alike U'.vm) (hk : U'.heap[a]? = some A) : Ch a A U' := ⟨h.1.keep hal hk, h.2⟩
/-- what place i of a char[]'s cell holds -/
def cv (A : Cell) (i : Nat) : Int32 := match A.slots[i]? with | some (.int x) => x | _ => 0
theorem Ch.get {a : Addr} {A : Cell} {U : State} (h : Ch a A U) {i : Nat} (hi : i < A.slots.size) : A.slots[i]? = some (.int (cv A i)) := by
  have e := Array.getElem?_eq_getElem hi
  have f := h.2 i _ e
  unfold cv; rw [e]
  generalize A.slots[i] = v at f
  cases v <;> simp [fits] at f ⊢
/-- the byte that i2b leaves of a char -/
def lo8 (x : Int32) : Int32 := x.toInt8.toInt32
theorem fits_lo8 (y : Int32) : fits .byte (.int (lo8 y)) = true := by
  have h1 := y.toInt8.le_toInt
  have h2 := y.toInt8.toInt_lt
  simp only [lo8, fits, Bool.and_eq_true, decide_eq_true_eq, Int32.le_iff_toInt_le, Int8.toInt_toInt32, show (-128 : Int32).toInt = -128 from by decide, show (127 : Int32).toInt = 127 from by decide]
  omega
/-- A' is A but that each place j of lo .. hi - 1 holds f j -/
def Laid (A A' : Cell) (lo hi : Nat) (f : Nat → Value) : Prop := A'.cls = A.cls ∧ A'.vm = A.vm ∧ A'.slots.size = A.slots.size ∧ ∀ i, A'.slots[i]? = if lo ≤ i ∧ i < hi then some (f i) else A.slots[i]?
theorem Laid.zero (A : Cell) (lo : Nat) (f : Nat → Value) : Laid A A lo (lo + 0) f := ⟨rfl, rfl, rfl, fun i => by rw [if_neg (by omega)]⟩
theorem Laid.step {A Ak : Cell} {lo k : Nat} {f : Nat → Value} {v : Value} (h : Laid A Ak lo k f) (hlo : lo ≤ k) (hk : k < Ak.slots.size) (hv : v = f k) : Laid A (Ak.setSlot k v) lo (k + 1) f := by
  refine ⟨h.1, h.2.1, by simpa [Cell.setSlot] using h.2.2.1, fun i => ?_⟩
  by_cases e : k = i
  · subst e; rw [Cell.slots_setSlot_self v hk, if_pos (by omega), hv]
  · rw [Cell.slots_setSlot_ne v e, h.2.2.2 i]
    by_cases q : lo ≤ i ∧ i < k
    · rw [if_pos q, if_pos (by omega)]
    · rw [if_neg q, if_neg (by omega)]
def U16 : String := "java/lang/StringUTF16"
namespace Cmp5
def yN : MethodName := ⟨"java/lang/StringUTF16", "compress", "([CI[BII)I"⟩
abbrev yB : ByteArray := jdk_52_method_21_code
theorem d0 : decode yB 0 = .ok (.iconst 0, 1) := by decide +kernel
theorem d1 : decode yB 1 = .ok (.istore 5, 2) := by decide +kernel
theorem d3 : decode yB 3 = .ok (.iload 5, 2) := by decide +kernel
theorem d5 : decode yB 5 = .ok (.iload 4, 2) := by decide +kernel
theorem d7 : decode yB 7 = .ok (.if_icmp (.ge) 37, 3) := by decide +kernel
theorem d10 : decode yB 10 = .ok (.aload_n 0, 1) := by decide +kernel
theorem d11 : decode yB 11 = .ok (.iload_n 1, 1) := by decide +kernel
theorem d12 : decode yB 12 = .ok (.caload, 1) := by decide +kernel
theorem d13 : decode yB 13 = .ok (.istore 6, 2) := by decide +kernel
theorem d15 : decode yB 15 = .ok (.iload 6, 2) := by decide +kernel
theorem d17 : decode yB 17 = .ok (.sipush 255, 3) := by decide +kernel
theorem d20 : decode yB 20 = .ok (.if_icmp (.le) 6, 3) := by decide +kernel
theorem d26 : decode yB 26 = .ok (.aload_n 2, 1) := by decide +kernel
theorem d27 : decode yB 27 = .ok (.iload_n 3, 1) := by decide +kernel
theorem d28 : decode yB 28 = .ok (.iload 6, 2) := by decide +kernel
theorem d30 : decode yB 30 = .ok (.i2b, 1) := by decide +kernel
theorem d31 : decode yB 31 = .ok (.bastore, 1) := by decide +kernel
theorem d32 : decode yB 32 = .ok (.iinc 1 1, 3) := by decide +kernel
theorem d35 : decode yB 35 = .ok (.iinc 3 1, 3) := by decide +kernel
theorem d38 : decode yB 38 = .ok (.iinc 5 1, 3) := by decide +kernel
theorem d41 : decode yB 41 = .ok (.goto (-38), 3) := by decide +kernel
theorem d44 : decode yB 44 = .ok (.iload 4, 2) := by decide +kernel
theorem d46 : decode yB 46 = .ok (.ireturn, 1) := by decide +kernel
def site : List Cond := []
def tab : Cond := tabOf yN yB 7 (some .int) site
def P (b : Addr) (A : Cell) (d : Addr) (B : Cell) (o q len : Nat) (args : Array Value) (s : State) : Prop := args = #[.ref b, .int (Int32.ofNat o), .ref d, .int (Int32.ofNat q), .int (Int32.ofNat len)] ∧ Ch b A s ∧ Arr .byte d B s ∧ b ≠ d ∧ o + len ≤ A.slots.size ∧ q + len ≤ B.slots.size ∧ ∀ i, i < len → ¬ 255 < cv A (o + i)
def E (b : Addr) (A : Cell) (d : Addr) (B : Cell) (o q len : Nat) (r : Option Value) (s u : State) : Prop := r = some (.int (Int32.ofNat len)) ∧ ∃ B', Put d B' s u ∧ Laid B B' q (q + len) (fun j => Value.int (lo8 (cv A (o + (j - q)))))
/-- no char of the range above 255: len; the places written hold each char's low byte -/
theorem law (l : Launch) (b : Addr) (A : Cell) (d : Addr) (B : Cell) (o q len : Nat) : Law l yN 5 5 0 0 yB 7 (some .int) site (P b A d B o q len) (E b A d B o q len) (copyLocs d q len) 0 0 := by
  refine Law.of_walk (plainFor_of_name (by decide +kernel)) (by decide +kernel) (by decide +kernel) (by decide) (fun _ _ h => by rw [h.1]; rfl) (fun _ U U' hal hh h => ⟨h.1, h.2.1.mv hal hh, h.2.2.1.mv hal hh, h.2.2.2⟩) (fun r U U' V V' h1 hal h2 h => ⟨h.1, h.2.elim fun B' q => ⟨B', q.1.mv h1 h2, q.2⟩⟩) ?_
  intro p e s m args below meth c s₁ X0 hexec hbytes hml hret hlk hnm hown hh0 W hP
  obtain ⟨rfl, hA, hB, hne, l1, l2, hp⟩ := hP
  have c1 : Steps p.tables e below (s₁.setTop (entryFrame m #[.ref b, .int (Int32.ofNat o), .ref d, .int (Int32.ofNat q), .int (Int32.ofNat len)] 7)) (s₁.setTop (mkF m 0 #[.val (.ref b), .val (.int (Int32.ofNat o)), .val (.ref d), .val (.int (Int32.ofNat q)), .val (.int (Int32.ofNat len)), .unset, .unset] [])) := entry rfl
  have hA0 := hA.1.mv X0.warmed.alike hh0
  have hB0 := hB.mv X0.warmed.alike hh0
  have a31 := hA.1.2.2.2
  have c2 : Steps p.tables e below (s₁.setTop (entryFrame m #[.ref b, .int (Int32.ofNat o), .ref d, .int (Int32.ofNat q), .int (Int32.ofNat len)] 7)) (s₁.setTop (mkF m 3 #[.val (.ref b), .val (.int (Int32.ofNat o)), .val (.ref d), .val (.int (Int32.ofNat q)), .val (.int (Int32.ofNat len)), .val (.int 0), .unset] [])) := c1.trans (by
    refine iconstV X0.here hexec rfl 0 (hb hbytes d0) (by decide) ?_
    refine XS.istore X0.here hexec rfl (hb hbytes d1) rfl rfl ?_
    exact Steps.refl _)
  have loop : ∀ (r i : Nat), i + r = len → ∀ (z : Slot), (z = .unset ∨ ∃ w, z = .val w ∧ w.category = 1) → ∀ (Tl : State) (Bk : Cell), Stand p l e { frames := 0, locals := 0, cells := 0, slots := 0 } s m #[.ref b, .int (Int32.ofNat o), .ref d, .int (Int32.ofNat q), .int (Int32.ofNat len)] below meth c Tl ([] ++ copyLocs d q i) 0 0 → Put d Bk s₁ Tl → Laid B Bk q (q + i) (fun j => Value.int (lo8 (cv A (o + (j - q))))) →
      Steps p.tables e below (s₁.setTop (entryFrame m #[.ref b, .int (Int32.ofNat o), .ref d, .int (Int32.ofNat q), .int (Int32.ofNat len)] 7)) (Tl.setTop (mkF m 3 #[.val (.ref b), .val (.int (Int32.ofNat (o + i))), .val (.ref d), .val (.int (Int32.ofNat (q + i))), .val (.int (Int32.ofNat len)), .val (.int (Int32.ofNat i)), z] [])) → ∃ (T' : State) (B' : Cell) (z' : Slot), Stand p l e { frames := 0, locals := 0, cells := 0, slots := 0 } s m #[.ref b, .int (Int32.ofNat o), .ref d, .int (Int32.ofNat q), .int (Int32.ofNat len)] below meth c T' ([] ++ copyLocs d q len) 0 0 ∧ Put d B' s₁ T' ∧ Laid B B' q (q + len) (fun j => Value.int (lo8 (cv A (o + (j - q))))) ∧
      Steps p.tables e below (s₁.setTop (entryFrame m #[.ref b, .int (Int32.ofNat o), .ref d, .int (Int32.ofNat q), .int (Int32.ofNat len)] 7)) (T'.setTop (mkF m 3 #[.val (.ref b), .val (.int (Int32.ofNat (o + len))), .val (.ref d), .val (.int (Int32.ofNat (q + len))), .val (.int (Int32.ofNat len)), .val (.int (Int32.ofNat len)), z'] [])) := by
    intro r
    induction r with
    | zero =>
      intro i hi z hz Tl Bk Xl pl fl cl
      have hil : i = len := by omega
      rw [hil] at Xl fl cl
      exact ⟨Tl, Bk, z, Xl, pl, fl, cl⟩
    | succ r ih =>
      intro i hi z hz Tl Bk Xl pl fl cl
      have all := X0.warmed.alike.symm.trans Xl.warmed.alike
      have hAl := hA0.keep all (pl.other hne hA0.1)
      have hBk := hB0.like all pl.1 fl.1 fl.2.1 fl.2.2.1
      have hlt : q + i < Bk.slots.size := by rw [fl.2.2.1]; omega
      have c3 : Steps p.tables e below (s₁.setTop (entryFrame m #[.ref b, .int (Int32.ofNat o), .ref d, .int (Int32.ofNat q), .int (Int32.ofNat len)] 7)) (Tl.setTop (mkF m 12 #[.val (.ref b), .val (.int (Int32.ofNat (o + i))), .val (.ref d), .val (.int (Int32.ofNat (q + i))), .val (.int (Int32.ofNat len)), .val (.int (Int32.ofNat i)), z] [.int (Int32.ofNat (o + i)), .ref b])) := cl.trans (by
        refine XS.iload Xl.here hexec rfl (hb hbytes d3) rfl ?_
        refine XS.iload Xl.here hexec rfl (hb hbytes d5) rfl ?_
        refine XS.icmpNo Xl.here hexec rfl (hb hbytes d7) rfl (ii_ge_f (lt32 (by omega) (by omega))) ?_
        refine XS.aloadN Xl.here hexec rfl (hb hbytes d10) rfl rfl ?_
        refine XS.iloadN Xl.here hexec rfl (hb hbytes d11) rfl ?_
        exact Steps.refl _)
      have c4 : Steps p.tables e below (s₁.setTop (entryFrame m #[.ref b, .int (Int32.ofNat o), .ref d, .int (Int32.ofNat q), .int (Int32.ofNat len)] 7)) (Tl.setTop (mkF m 13 #[.val (.ref b), .val (.int (Int32.ofNat (o + i))), .val (.ref d), .val (.int (Int32.ofNat (q + i))), .val (.int (Int32.ofNat len)), .val (.int (Int32.ofNat i)), z] [.int (cv A (o + i))])) := c3.trans (by
        refine Xl.aget hexec hAl rfl (hA.get (i := o + i) (by omega)) rfl rfl (hb hbytes d12) ?_
        exact Steps.refl _)
      have c5 : Steps p.tables e below (s₁.setTop (entryFrame m #[.ref b, .int (Int32.ofNat o), .ref d, .int (Int32.ofNat q), .int (Int32.ofNat len)] 7)) (Tl.setTop (mkF m 15 #[.val (.ref b), .val (.int (Int32.ofNat (o + i))), .val (.ref d), .val (.int (Int32.ofNat (q + i))), .val (.int (Int32.ofNat len)), .val (.int (Int32.ofNat i)), .val (.int (cv A (o + i)))] [])) := c4.trans (by
        refine XS.istoreS Xl.here hexec rfl (hb hbytes d13) rfl rfl hz ?_
        exact Steps.refl _)
      have c6 : Steps p.tables e below (s₁.setTop (entryFrame m #[.ref b, .int (Int32.ofNat o), .ref d, .int (Int32.ofNat q), .int (Int32.ofNat len)] 7)) (Tl.setTop (mkF m 31 #[.val (.ref b), .val (.int (Int32.ofNat (o + i))), .val (.ref d), .val (.int (Int32.ofNat (q + i))), .val (.int (Int32.ofNat len)), .val (.int (Int32.ofNat i)), .val (.int (cv A (o + i)))] [.int (lo8 (cv A (o + i))), .int (Int32.ofNat (q + i)), .ref d])) := c5.trans (by
        refine XS.iload Xl.here hexec rfl (hb hbytes d15) rfl ?_
        refine sipushV Xl.here hexec rfl 255 (hb hbytes d17) (by decide) ?_
        refine XS.icmpYes Xl.here hexec rfl (pc0 := 20) rfl (hb hbytes d20) rfl (ii_le_t (hp i (by omega))) (by decide) rfl ?_
        refine XS.aloadN Xl.here hexec rfl (hb hbytes d26) rfl rfl ?_
        refine XS.iloadN Xl.here hexec rfl (hb hbytes d27) rfl ?_
        refine XS.iload Xl.here hexec rfl (hb hbytes d28) rfl ?_
        refine i2b Xl.here hexec rfl (hb hbytes d30) rfl ?_
        exact Steps.refl _)
      obtain ⟨T7, X7, p7, st7⟩ := Xl.aput hexec hBk rfl hlt rfl (fits_lo8 (cv A (o + i))) (g := (mkF m 31 #[.val (.ref b), .val (.int (Int32.ofNat (o + i))), .val (.ref d), .val (.int (Int32.ofNat (q + i))), .val (.int (Int32.ofNat len)), .val (.int (Int32.ofNat i)), .val (.int (cv A (o + i)))] [.int (lo8 (cv A (o + i))), .int (Int32.ofNat (q + i)), .ref d])) rfl (rest := []) rfl (hb hbytes d31)
      have c8 : Steps p.tables e below (s₁.setTop (entryFrame m #[.ref b, .int (Int32.ofNat o), .ref d, .int (Int32.ofNat q), .int (Int32.ofNat len)] 7)) (T7.setTop (mkF m 32 #[.val (.ref b), .val (.int (Int32.ofNat (o + i))), .val (.ref d), .val (.int (Int32.ofNat (q + i))), .val (.int (Int32.ofNat len)), .val (.int (Int32.ofNat i)), .val (.int (cv A (o + i)))] [])) := c6.trans (st7 _ (Steps.refl _))
      have c9 : Steps p.tables e below (s₁.setTop (entryFrame m #[.ref b, .int (Int32.ofNat o), .ref d, .int (Int32.ofNat q), .int (Int32.ofNat len)] 7)) (T7.setTop (mkF m 3 #[.val (.ref b), .val (.int (Int32.ofNat (o + i) + 1)), .val (.ref d), .val (.int (Int32.ofNat (q + i) + 1)), .val (.int (Int32.ofNat len)), .val (.int (Int32.ofNat i + 1)), .val (.int (cv A (o + i)))] [])) := c8.trans (by
        refine iincV X7.here hexec rfl 1 (hb hbytes d32) (by decide) rfl rfl ?_
        refine iincV X7.here hexec rfl 1 (hb hbytes d35) (by decide) rfl rfl ?_
        refine iincV X7.here hexec rfl 1 (hb hbytes d38) (by decide) rfl rfl ?_
        refine XS.goto X7.here hexec rfl (pc0 := 41) rfl (hb hbytes d41) (by decide) rfl ?_
        exact Steps.refl _)
      have c10 : Steps p.tables e below (s₁.setTop (entryFrame m #[.ref b, .int (Int32.ofNat o), .ref d, .int (Int32.ofNat q), .int (Int32.ofNat len)] 7)) (T7.setTop (mkF m 3 #[.val (.ref b), .val (.int (Int32.ofNat (o + (i + 1)))), .val (.ref d), .val (.int (Int32.ofNat (q + (i + 1)))), .val (.int (Int32.ofNat len)), .val (.int (Int32.ofNat (i + 1))), .val (.int (cv A (o + i)))] [])) := by
        have := c9
        rw [succ32, succ32, succ32] at this
        exact this
      exact ih (i + 1) (by omega) _ (Or.inr ⟨_, rfl, rfl⟩) T7 _ (by rw [copyLocs_step, ← List.append_assoc]; exact X7) (pl.trans p7) (fl.step (by omega) hlt (by simp)) c10
  obtain ⟨T9, B9, z9, X9, p9, f9, g9⟩ := loop len 0 (by omega) .unset (Or.inl rfl) s₁ B (by simpa [copyLocs] using X0) ⟨hB0.1, fun _ _ => rfl, rfl⟩ (Laid.zero _ _ _) c2
  have c11 : Steps p.tables e below (s₁.setTop (entryFrame m #[.ref b, .int (Int32.ofNat o), .ref d, .int (Int32.ofNat q), .int (Int32.ofNat len)] 7)) (T9.setTop (mkF m 46 #[.val (.ref b), .val (.int (Int32.ofNat (o + len))), .val (.ref d), .val (.int (Int32.ofNat (q + len))), .val (.int (Int32.ofNat len)), .val (.int (Int32.ofNat len)), z9] [.int (Int32.ofNat len)])) := g9.trans (by
    refine XS.iload X9.here hexec rfl (hb hbytes d3) rfl ?_
    refine XS.iload X9.here hexec rfl (hb hbytes d5) rfl ?_
    refine XS.icmpYes X9.here hexec rfl (pc0 := 7) rfl (hb hbytes d7) rfl (ii_ge_t (nlt32 (by omega) (Nat.le_refl _))) (by decide) rfl ?_
    refine XS.iload X9.here hexec rfl (hb hbytes d44) rfl ?_
    exact Steps.refl _)
  exact ⟨T9, some (.int (Int32.ofNat len)), _, _, _, X9, by simp, rfl, rfl, (fun h => by cases h), ⟨rfl, B9, p9.from hh0, f9⟩, fun fs hl => c11.trans (X9.ireturnOut hexec hret rfl (Or.inl rfl) (hb hbytes d46) hl)⟩
end Cmp5
namespace Cmp3
def yN : MethodName := ⟨"java/lang/StringUTF16", "compress", "([CII)[B"⟩
abbrev yB : ByteArray := jdk_52_method_16_code
theorem d0 : decode yB 0 = .ok (.iload_n 2, 1) := by decide +kernel
theorem d1 : decode yB 1 = .ok (.newarray .byte, 2) := by decide +kernel
theorem d3 : decode yB 3 = .ok (.astore_n 3, 1) := by decide +kernel
theorem d4 : decode yB 4 = .ok (.aload_n 0, 1) := by decide +kernel
theorem d5 : decode yB 5 = .ok (.iload_n 1, 1) := by decide +kernel
theorem d6 : decode yB 6 = .ok (.aload_n 3, 1) := by decide +kernel
theorem d7 : decode yB 7 = .ok (.iconst 0, 1) := by decide +kernel
theorem d8 : decode yB 8 = .ok (.iload_n 2, 1) := by decide +kernel
theorem d9 : decode yB 9 = .ok (.invokestatic 115, 3) := by decide +kernel
theorem d12 : decode yB 12 = .ok (.istore 4, 2) := by decide +kernel
theorem d14 : decode yB 14 = .ok (.iload 4, 2) := by decide +kernel
theorem d16 : decode yB 16 = .ok (.iload_n 2, 1) := by decide +kernel
theorem d17 : decode yB 17 = .ok (.if_icmp (.eq) 40, 3) := by decide +kernel
theorem d57 : decode yB 57 = .ok (.aload_n 3, 1) := by decide +kernel
theorem d58 : decode yB 58 = .ok (.areturn, 1) := by decide +kernel
def site : List Cond := [.arrayClass .byte, Cmp5.tab] ++ staticW U16 115 Cmp5.yN
def tab : Cond := tabOf yN yB 6 (some (.array .byte)) site
def P (b : Addr) (A : Cell) (o len : Nat) (args : Array Value) (s : State) : Prop := args = #[.ref b, .int (Int32.ofNat o), .int (Int32.ofNat len)] ∧ Ch b A s ∧ o + len ≤ A.slots.size ∧ len ≤ 536870912 ∧ ∀ i, i < len → ¬ 255 < cv A (o + i)
def E (b : Addr) (A : Cell) (o len : Nat) (r : Option Value) (s u : State) : Prop := NewArr .byte "[B" len (fun j => .int (lo8 (cv A (o + j)))) r s u ∧ u.heap.size = s.heap.size + 1
/-- no char of the range above 255: a new byte[] of their low bytes -/
theorem law (l : Launch) (b : Addr) (A : Cell) (o len : Nat) : Law l yN 3 3 1 18 yB 6 (some (.array .byte)) site (P b A o len) (E b A o len) [] 1 len := by
  refine Law.of_walk (plainFor_of_name (by decide +kernel)) (by decide +kernel) (by decide +kernel) (by decide) (fun _ _ h => by rw [h.1]; rfl) (fun _ U U' hal hh h => ⟨h.1, h.2.1.mv hal hh, h.2.2⟩) (fun r U U' V V' h1 hal h2 h => ⟨NewArr.mv r U U' V V' h1 hal h2 h.1, by rw [h1, h2]; exact h.2⟩) ?_
  intro p e s m args below meth c s₁ X0 hexec hbytes hml hret hlk hnm hown hh0 W hP
  obtain ⟨rfl, hA, l1, l2, hp⟩ := hP
  have a31 := hA.1.2.2.2
  have c1 : Steps p.tables e below (s₁.setTop (entryFrame m #[.ref b, .int (Int32.ofNat o), .int (Int32.ofNat len)] 6)) (s₁.setTop (mkF m 0 #[.val (.ref b), .val (.int (Int32.ofNat o)), .val (.int (Int32.ofNat len)), .unset, .unset, .unset] [])) := entry rfl
  have c2 : Steps p.tables e below (s₁.setTop (entryFrame m #[.ref b, .int (Int32.ofNat o), .int (Int32.ofNat len)] 6)) (s₁.setTop (mkF m 1 #[.val (.ref b), .val (.int (Int32.ofNat o)), .val (.int (Int32.ofNat len)), .unset, .unset, .unset] [.int (Int32.ofNat len)])) := c1.trans (by
    refine XS.iloadN X0.here hexec rfl (hb hbytes d0) rfl ?_
    exact Steps.refl _)
  obtain ⟨T3, B3, X3, ba3, bs3, bv3, bh3, bf3, st3⟩ := X0.anew hexec (atype := .byte) (wk W (.arrayClass .byte)) rfl (by show len * 1 ≤ _; omega) (by omega) (g := (mkF m 1 #[.val (.ref b), .val (.int (Int32.ofNat o)), .val (.int (Int32.ofNat len)), .unset, .unset, .unset] [.int (Int32.ofNat len)])) rfl (hb hbytes d1) (rest := []) rfl (Nat.le_refl _) (by show 0 + len ≤ len; omega)
  rw [hh0] at ba3 st3
  have kp3 : XT.Kept s T3 := (XT.Kept.of_eq hh0).push bh3
  have hA3 := hA.keep X3.warmed.alike (kp3 _ _ hA.1.1)
  have hne : b ≠ s.heap.size := hA.1.ne
  have c4 : Steps p.tables e below (s₁.setTop (entryFrame m #[.ref b, .int (Int32.ofNat o), .int (Int32.ofNat len)] 6)) (T3.setTop (mkF m 3 #[.val (.ref b), .val (.int (Int32.ofNat o)), .val (.int (Int32.ofNat len)), .unset, .unset, .unset] [.ref s.heap.size])) := c2.trans (st3 _ (Steps.refl _))
  have c5 : Steps p.tables e below (s₁.setTop (entryFrame m #[.ref b, .int (Int32.ofNat o), .int (Int32.ofNat len)] 6)) (T3.setTop (mkF m 9 #[.val (.ref b), .val (.int (Int32.ofNat o)), .val (.int (Int32.ofNat len)), .val (.ref s.heap.size), .unset, .unset] [.int (Int32.ofNat len), .int 0, .ref s.heap.size, .int (Int32.ofNat o), .ref b])) := c4.trans (by
    refine XS.astoreN X3.here hexec rfl (hb hbytes d3) rfl rfl rfl ?_
    refine XS.aloadN X3.here hexec rfl (hb hbytes d4) rfl rfl ?_
    refine XS.iloadN X3.here hexec rfl (hb hbytes d5) rfl ?_
    refine XS.aloadN X3.here hexec rfl (hb hbytes d6) rfl rfl ?_
    refine iconstV X3.here hexec rfl 0 (hb hbytes d7) (by decide) ?_
    refine XS.iloadN X3.here hexec rfl (hb hbytes d8) rfl ?_
    exact Steps.refl _)
  obtain ⟨v6, T6, X6, E6, g6⟩ := X3.callS hexec (Cmp5.law l b A s.heap.size B3 o 0 len) hown (wks W (staticW U16 115 Cmp5.yN)) (wk W Cmp5.tab) (W := 0) (Nat.le_of_ble_eq_true rfl) (Nat.le_of_ble_eq_true rfl) (Nat.le_refl _) (by show 0 + len + 0 ≤ len; omega) (g := (mkF m 9 #[.val (.ref b), .val (.int (Int32.ofNat o)), .val (.int (Int32.ofNat len)), .val (.ref s.heap.size), .unset, .unset] [.int (Int32.ofNat len), .int (Int32.ofNat 0), .ref s.heap.size, .int (Int32.ofNat o), .ref b])) rfl (by rw [hml]; rfl) c5 (argsL := [.ref b, .int (Int32.ofNat o), .ref s.heap.size, .int (Int32.ofNat 0), .int (Int32.ofNat len)]) (rest := []) rfl rfl (by show 2 * 0 + 0 ≤ _; decide) (hb hbytes d9) (⟨rfl, hA3, ba3, hne, l1, by rw [bs3]; simp, hp⟩)
  obtain ⟨rfl, B6, p6, f6⟩ := E6
  have c7 : Steps p.tables e below (s₁.setTop (entryFrame m #[.ref b, .int (Int32.ofNat o), .int (Int32.ofNat len)] 6)) (T6.setTop (mkF m 12 #[.val (.ref b), .val (.int (Int32.ofNat o)), .val (.int (Int32.ofNat len)), .val (.ref s.heap.size), .unset, .unset] [.int (Int32.ofNat len)])) := g6
  have c8 : Steps p.tables e below (s₁.setTop (entryFrame m #[.ref b, .int (Int32.ofNat o), .int (Int32.ofNat len)] 6)) (T6.setTop (mkF m 58 #[.val (.ref b), .val (.int (Int32.ofNat o)), .val (.int (Int32.ofNat len)), .val (.ref s.heap.size), .val (.int (Int32.ofNat len)), .unset] [.ref s.heap.size])) := c7.trans (by
    refine XS.istore X6.here hexec rfl (hb hbytes d12) rfl rfl ?_
    refine XS.iload X6.here hexec rfl (hb hbytes d14) rfl ?_
    refine XS.iloadN X6.here hexec rfl (hb hbytes d16) rfl ?_
    refine XS.icmpYes X6.here hexec rfl (pc0 := 17) rfl (hb hbytes d17) rfl (ii_eq_t rfl) (by decide) rfl ?_
    refine XS.aloadN X6.here hexec rfl (hb hbytes d57) rfl rfl ?_
    exact Steps.refl _)
  have X8 := X6.wide (L' := []) (cells' := 1) (slots' := len) (fun x hx hlt => by
    simp only [List.nil_append, copyLocs, List.mem_map, List.mem_range] at hx
    obtain ⟨i, -, rfl⟩ := hx
    exact absurd hlt (Nat.lt_irrefl _)) (Nat.le_refl _) (by omega)
  exact ⟨T6, some (.ref s.heap.size), _, _, _, X8, rfl, rfl, rfl, (fun h => by cases h), ⟨⟨rfl, B6, ba3.like (X3.warmed.alike.symm.trans X6.warmed.alike) p6.1 f6.1 f6.2.1 f6.2.2.1, f6.2.1.trans bv3, by rw [X6.warmed.alike.findClass, f6.1]; exact bf3, by rw [f6.2.2.1, bs3]; simp, fun j hj => by rw [f6.2.2.2 j, if_pos (by omega)]; rfl, kp3.put p6 (Nat.le_refl _)⟩, by rw [p6.2.2, bh3, hh0]; simp⟩, fun fs hl => c8.trans (X8.areturnOut hexec rfl hret rfl (hb hbytes d58) hl)⟩
end Cmp3
namespace CodL
def yN : MethodName := ⟨"java/lang/StringUTF16", "coderFromArrayLen", "([BI)B"⟩
abbrev yB : ByteArray := jdk_52_method_15_code
theorem d0 : decode yB 0 = .ok (.iload_n 1, 1) := by decide +kernel
theorem d1 : decode yB 1 = .ok (.aload_n 0, 1) := by decide +kernel
theorem d2 : decode yB 2 = .ok (.arraylength, 1) := by decide +kernel
theorem d3 : decode yB 3 = .ok (.isub, 1) := by decide +kernel
theorem d4 : decode yB 4 = .ok (.bipush 31, 2) := by decide +kernel
theorem d6 : decode yB 6 = .ok (.iushr, 1) := by decide +kernel
theorem d7 : decode yB 7 = .ok (.i2b, 1) := by decide +kernel
theorem d8 : decode yB 8 = .ok (.ireturn, 1) := by decide +kernel
def site : List Cond := []
def tab : Cond := tabOf yN yB 2 (some .byte) site
def P (d : Addr) (B : Cell) (args : Array Value) (s : State) : Prop := args = #[.ref d, .int (Int32.ofNat B.slots.size)] ∧ Arr .byte d B s
def E (r : Option Value) (s u : State) : Prop := XT.PureE (some (.int 0)) r s u
/-- an array as long as the number of chars: LATIN1 -/
theorem law (l : Launch) (d : Addr) (B : Cell) : Law l yN 2 2 0 0 yB 2 (some .byte) site (P d B) E [] 0 0 := by
  refine Law.of_walk (plainFor_of_name (by decide +kernel)) (by decide +kernel) (by decide +kernel) (by decide) (fun _ _ h => by rw [h.1]; rfl) (fun _ U U' hal hh h => ⟨h.1, h.2.mv hal hh⟩) (fun r U U' V V' h1 hal h2 h => XT.PureE.mv r U U' V V' h1 hal h2 h) ?_
  intro p e s m args below meth c s₁ X0 hexec hbytes hml hret hlk hnm hown hh0 W hP
  obtain ⟨rfl, hB⟩ := hP
  have hB0 := hB.mv X0.warmed.alike hh0
  have c1 : Steps p.tables e below (s₁.setTop (entryFrame m #[.ref d, .int (Int32.ofNat B.slots.size)] 2)) (s₁.setTop (mkF m 0 #[.val (.ref d), .val (.int (Int32.ofNat B.slots.size))] [])) := entry rfl
  have c2 : Steps p.tables e below (s₁.setTop (entryFrame m #[.ref d, .int (Int32.ofNat B.slots.size)] 2)) (s₁.setTop (mkF m 2 #[.val (.ref d), .val (.int (Int32.ofNat B.slots.size))] [.ref d, .int (Int32.ofNat B.slots.size)])) := c1.trans (by
    refine XS.iloadN X0.here hexec rfl (hb hbytes d0) rfl ?_
    refine XS.aloadN X0.here hexec rfl (hb hbytes d1) rfl rfl ?_
    exact Steps.refl _)
  have c3 : Steps p.tables e below (s₁.setTop (entryFrame m #[.ref d, .int (Int32.ofNat B.slots.size)] 2)) (s₁.setTop (mkF m 8 #[.val (.ref d), .val (.int (Int32.ofNat B.slots.size))] [.int (lo8 (ushr (Int32.ofNat B.slots.size - Int32.ofNat B.slots.size) 31))])) := c2.trans (by
    refine X0.alen hexec hB0 rfl rfl (hb hbytes d2) ?_
    refine XS.isub X0.here hexec rfl (hb hbytes d3) rfl ?_
    refine bipushV X0.here hexec rfl 31 (hb hbytes d4) (by decide) ?_
    refine iushr X0.here hexec rfl (hb hbytes d6) rfl ?_
    refine i2b X0.here hexec rfl (hb hbytes d7) rfl ?_
    exact Steps.refl _)
  have e0 : lo8 (ushr (Int32.ofNat B.slots.size - Int32.ofNat B.slots.size) 31) = 0 := by rw [Int32.sub_self]; decide
  rw [e0] at c3
  exact ⟨s₁, some (.int 0), _, _, _, X0, rfl, rfl, rfl, (fun h => by cases h), ⟨rfl, hh0⟩, fun fs hl => c3.trans (X0.ireturnOut hexec hret rfl (Or.inr (Or.inr (Or.inl rfl))) (hb hbytes d8) hl)⟩
end CodL
/-- the String at a is Latin-1 over a new byte[] (the heap's one new cell): the low bytes of the len chars of A from o on; every cell but a is kept -/
def Got (a : Addr) (D : Cell) (fV fC : Field) (A : Cell) (o len : Nat) (r : Option Value) (s u : State) : Prop := r = none ∧ ∃ D' V : Cell, Blank "java/lang/String" a D' u ∧ Same D D' [fV.slot, fC.slot] ∧ D'.slots[fV.slot]? = some (.ref s.heap.size) ∧ D'.slots[fC.slot]? = some (.int 0) ∧ Arr .byte s.heap.size V u ∧ V.vm = .none ∧ u.vm.findClass "[B" = some V.cls ∧ V.slots.size = len ∧ (∀ j, j < len → V.slots[j]? = some (.int (lo8 (cv A (o + j))))) ∧ (∀ (y : Addr) (c : Cell), y ≠ a → s.heap[y]? = some c → u.heap[y]? = some c) ∧ u.heap.size = s.heap.size + 1
theorem Got.mv {a : Addr} {D A : Cell} {fV fC : Field} {o len : Nat} : ∀ r (U U' V V' : State), U'.heap = U.heap → V.vm.Alike V'.vm → V'.heap = V.heap → Got a D fV fC A o len r U V → Got a D fV fC A o len r U' V' :=
  fun r U U' V V' h1 hal h2 ⟨e0, D', X, a1, a2, a3, a4, a5, a6, a7, a8, a9, a10, a11⟩ => ⟨e0, D', X, a1.mv hal h2, a2, by rw [h1]; exact a3, a4, by rw [h1]; exact a5.mv hal h2, a6, by rw [hal.findClass]; exact a7, a8, a9, by rw [h1, h2]; exact a10, by rw [h1, h2]; exact a11⟩
namespace New4
def yN : MethodName := ⟨"java/lang/String", "<init>", "([CIILjava/lang/Void;)V"⟩
abbrev yB : ByteArray := jdk_42_method_149_code
theorem d0 : decode yB 0 = .ok (.aload_n 0, 1) := by decide +kernel
theorem d1 : decode yB 1 = .ok (.invokespecial 1, 3) := by decide +kernel
theorem d4 : decode yB 4 = .ok (.iload_n 3, 1) := by decide +kernel
theorem d5 : decode yB 5 = .ok (.ifCond (.ne) 22, 3) := by decide +kernel
theorem d27 : decode yB 27 = .ok (.getstatic 38, 3) := by decide +kernel
theorem d30 : decode yB 30 = .ok (.ifCond (.eq) 28, 3) := by decide +kernel
theorem d33 : decode yB 33 = .ok (.aload_n 1, 1) := by decide +kernel
theorem d34 : decode yB 34 = .ok (.iload_n 2, 1) := by decide +kernel
theorem d35 : decode yB 35 = .ok (.iload_n 3, 1) := by decide +kernel
theorem d36 : decode yB 36 = .ok (.invokestatic 177, 3) := by decide +kernel
theorem d39 : decode yB 39 = .ok (.astore 5, 2) := by decide +kernel
theorem d41 : decode yB 41 = .ok (.aload_n 0, 1) := by decide +kernel
theorem d42 : decode yB 42 = .ok (.aload 5, 2) := by decide +kernel
theorem d44 : decode yB 44 = .ok (.iload_n 3, 1) := by decide +kernel
theorem d45 : decode yB 45 = .ok (.invokestatic 47, 3) := by decide +kernel
theorem d48 : decode yB 48 = .ok (.putfield 15, 3) := by decide +kernel
theorem d51 : decode yB 51 = .ok (.aload_n 0, 1) := by decide +kernel
theorem d52 : decode yB 52 = .ok (.aload 5, 2) := by decide +kernel
theorem d54 : decode yB 54 = .ok (.putfield 9, 3) := by decide +kernel
theorem d57 : decode yB 57 = .ok (.return_, 1) := by decide +kernel
def site : List Cond := [.fieldLink "java/lang/String" 38 "java/lang/String" "COMPACT_STRINGS" "Z", Cmp3.tab, CodL.tab, .laysFinal "java/lang/String" "java/lang/String" "value" "[B", .fieldLink "java/lang/String" 9 "java/lang/String" "value" "[B", .laysFinal "java/lang/String" "java/lang/String" "coder" "B", .fieldLink "java/lang/String" 15 "java/lang/String" "coder" "B"] ++ objW "java/lang/String" 1 ++ staticW "java/lang/String" 177 Cmp3.yN ++ staticW "java/lang/String" 47 CodL.yN
def tab : Cond := tabOf yN yB 6 none site
def P (a : Addr) (D : Cell) (fV fC : Field) (b : Addr) (A : Cell) (z : Int32) (o len : Nat) (args : Array Value) (s : State) : Prop := args = #[.ref a, .ref b, .int (Int32.ofNat o), .int (Int32.ofNat len), .null] ∧ Blank "java/lang/String" a D s ∧ Found "java/lang/String" "value" "[B" fV s ∧ Found "java/lang/String" "coder" "B" fC s ∧ Ch b A s ∧ StaticIs s "java/lang/String" "COMPACT_STRINGS" "Z" (.int z) ∧ ¬ z = 0 ∧ 0 < len ∧ o + len ≤ A.slots.size ∧ len ≤ 536870912 ∧ ∀ i, i < len → ¬ 255 < cv A (o + i)
def E (a : Addr) (D : Cell) (fV fC : Field) (A : Cell) (o len : Nat) (r : Option Value) (s u : State) : Prop := Got a D fV fC A o len r s u
/-- len > 0, no char of the range above 255: a Latin-1 String of their low bytes -/
theorem law (l : Launch) (a : Addr) (D : Cell) (fV fC : Field) (b : Addr) (A : Cell) (z : Int32) (o len : Nat) : Law l yN 5 4 2 35 yB 6 none site (P a D fV fC b A z o len) (E a D fV fC A o len) [⟨a, fC.slot⟩, ⟨a, fV.slot⟩] 1 len := by
  refine Law.of_walk (plainFor_of_name (by decide +kernel)) (by decide +kernel) (by decide +kernel) (by decide) (fun _ _ h => by rw [h.1]; rfl) (fun _ U U' hal hh h => ⟨h.1, h.2.1.mv hal hh, h.2.2.1.al hal, h.2.2.2.1.al hal, h.2.2.2.2.1.mv hal hh, h.2.2.2.2.2.1.there hal hh, h.2.2.2.2.2.2⟩) (fun r U U' V V' h1 hal h2 h => Got.mv r U U' V V' h1 hal h2 h) ?_
  intro p e s m args below meth c s₁ X0 hexec hbytes hml hret hlk hnm hown hh0 W hP
  obtain ⟨rfl, hB, f1, f2, hA, s1, hz, l0, l1, l2, hp⟩ := hP
  have a31 := hA.1.2.2.2
  have c1 : Steps p.tables e below (s₁.setTop (entryFrame m #[.ref a, .ref b, .int (Int32.ofNat o), .int (Int32.ofNat len), .null] 6)) (s₁.setTop (mkF m 0 #[.val (.ref a), .val (.ref b), .val (.int (Int32.ofNat o)), .val (.int (Int32.ofNat len)), .val .null, .unset] [])) := entry rfl
  have c2 : Steps p.tables e below (s₁.setTop (entryFrame m #[.ref a, .ref b, .int (Int32.ofNat o), .int (Int32.ofNat len), .null] 6)) (s₁.setTop (mkF m 1 #[.val (.ref a), .val (.ref b), .val (.int (Int32.ofNat o)), .val (.int (Int32.ofNat len)), .val .null, .unset] [.ref a])) := c1.trans (by
    refine XS.aloadN X0.here hexec rfl (hb hbytes d0) rfl rfl ?_
    exact Steps.refl _)
  obtain ⟨T3, X3, q3, st3⟩ := X0.oinit hexec hown (wks W (objW "java/lang/String" 1)) (g := (mkF m 1 #[.val (.ref a), .val (.ref b), .val (.int (Int32.ofNat o)), .val (.int (Int32.ofNat len)), .val .null, .unset] [.ref a])) rfl (by rw [hml]; rfl) (rest := []) rfl (hb hbytes d1) (W := 0) (by show 2 * 0 + 0 ≤ _; decide) (Nat.le_of_ble_eq_true rfl) (Nat.le_of_ble_eq_true rfl)
  have hh3 := q3.trans hh0
  have c4 : Steps p.tables e below (s₁.setTop (entryFrame m #[.ref a, .ref b, .int (Int32.ofNat o), .int (Int32.ofNat len), .null] 6)) (T3.setTop (mkF m 27 #[.val (.ref a), .val (.ref b), .val (.int (Int32.ofNat o)), .val (.int (Int32.ofNat len)), .val .null, .unset] [])) := (c2.trans (st3 _ (Steps.refl _))).trans (by
    refine XS.iloadN X3.here hexec rfl (hb hbytes d4) rfl ?_
    refine XS.ifYes X3.here hexec rfl (pc0 := 5) rfl (hb hbytes d5) rfl (i0_ne_t (nz32 (by omega) l0)) (by decide) rfl ?_
    exact Steps.refl _)
  obtain ⟨T5, X5, q5, st5⟩ := X3.sget hexec hown (wk W (.fieldLink "java/lang/String" 38 "java/lang/String" "COMPACT_STRINGS" "Z")) s1 (fun _ _ h => by rw [hh3]; exact h) (g := (mkF m 27 #[.val (.ref a), .val (.ref b), .val (.int (Int32.ofNat o)), .val (.int (Int32.ofNat len)), .val .null, .unset] [])) rfl (hb hbytes d27)
  have hh5 := q5.trans hh3
  have c6 : Steps p.tables e below (s₁.setTop (entryFrame m #[.ref a, .ref b, .int (Int32.ofNat o), .int (Int32.ofNat len), .null] 6)) (T5.setTop (mkF m 30 #[.val (.ref a), .val (.ref b), .val (.int (Int32.ofNat o)), .val (.int (Int32.ofNat len)), .val .null, .unset] [.int z])) := c4.trans (st5 _ (Steps.refl _))
  have c7 : Steps p.tables e below (s₁.setTop (entryFrame m #[.ref a, .ref b, .int (Int32.ofNat o), .int (Int32.ofNat len), .null] 6)) (T5.setTop (mkF m 36 #[.val (.ref a), .val (.ref b), .val (.int (Int32.ofNat o)), .val (.int (Int32.ofNat len)), .val .null, .unset] [.int (Int32.ofNat len), .int (Int32.ofNat o), .ref b])) := c6.trans (by
    refine XS.ifNo X5.here hexec rfl (hb hbytes d30) rfl (i0_eq_f hz) ?_
    refine XS.aloadN X5.here hexec rfl (hb hbytes d33) rfl rfl ?_
    refine XS.iloadN X5.here hexec rfl (hb hbytes d34) rfl ?_
    refine XS.iloadN X5.here hexec rfl (hb hbytes d35) rfl ?_
    exact Steps.refl _)
  obtain ⟨v8, T8, X8, E8, g8⟩ := X5.callS hexec (Cmp3.law l b A o len) hown (wks W (staticW "java/lang/String" 177 Cmp3.yN)) (wk W Cmp3.tab) (W := 0) (Nat.le_of_ble_eq_true rfl) (Nat.le_of_ble_eq_true rfl) (Nat.le_refl _) (by show 0 + len ≤ len; omega) (g := (mkF m 36 #[.val (.ref a), .val (.ref b), .val (.int (Int32.ofNat o)), .val (.int (Int32.ofNat len)), .val .null, .unset] [.int (Int32.ofNat len), .int (Int32.ofNat o), .ref b])) rfl (by rw [hml]; rfl) c7 (argsL := [.ref b, .int (Int32.ofNat o), .int (Int32.ofNat len)]) (rest := []) rfl rfl (by show 2 * 0 + 0 ≤ _; decide) (hb hbytes d36) (⟨rfl, hA.mv X5.warmed.alike hh5, l1, l2, hp⟩)
  obtain ⟨e8, z8⟩ := E8
  obtain ⟨rfl, N, n1, n2, n3, n4, n5, n6⟩ := NewArr.mv _ T5 s _ _ hh5.symm (Vm.Alike.refl _) rfl e8
  rw [hh5] at z8
  have hB1 := hB.keep X8.warmed.alike (n6 _ _ hB.1)
  have hne : s.heap.size ≠ a := (Nat.ne_of_lt (Array.getElem?_eq_some_iff.mp hB.1).1).symm
  have c9 : Steps p.tables e below (s₁.setTop (entryFrame m #[.ref a, .ref b, .int (Int32.ofNat o), .int (Int32.ofNat len), .null] 6)) (T8.setTop (mkF m 39 #[.val (.ref a), .val (.ref b), .val (.int (Int32.ofNat o)), .val (.int (Int32.ofNat len)), .val .null, .unset] [.ref s.heap.size])) := g8
  have c10 : Steps p.tables e below (s₁.setTop (entryFrame m #[.ref a, .ref b, .int (Int32.ofNat o), .int (Int32.ofNat len), .null] 6)) (T8.setTop (mkF m 45 #[.val (.ref a), .val (.ref b), .val (.int (Int32.ofNat o)), .val (.int (Int32.ofNat len)), .val .null, .val (.ref s.heap.size)] [.int (Int32.ofNat N.slots.size), .ref s.heap.size, .ref a])) := by
    have hc : Steps p.tables e below (s₁.setTop (entryFrame m #[.ref a, .ref b, .int (Int32.ofNat o), .int (Int32.ofNat len), .null] 6)) (T8.setTop (mkF m 45 #[.val (.ref a), .val (.ref b), .val (.int (Int32.ofNat o)), .val (.int (Int32.ofNat len)), .val .null, .val (.ref s.heap.size)] [.int (Int32.ofNat len), .ref s.heap.size, .ref a])) := c9.trans (by
      refine XS.astore X8.here hexec rfl (hb hbytes d39) rfl rfl rfl ?_
      refine XS.aloadN X8.here hexec rfl (hb hbytes d41) rfl rfl ?_
      refine XS.aload X8.here hexec rfl (hb hbytes d42) rfl rfl ?_
      refine XS.iloadN X8.here hexec rfl (hb hbytes d44) rfl ?_
      exact Steps.refl _)
    rw [n4]; exact hc
  obtain ⟨v11, T11, X11, E11, g11⟩ := X8.callS hexec (CodL.law l s.heap.size N) hown (wks W (staticW "java/lang/String" 47 CodL.yN)) (wk W CodL.tab) (W := 1) (Nat.le_of_ble_eq_true rfl) (Nat.le_of_ble_eq_true rfl) (Nat.le_refl _) (by show 0 + len + 0 ≤ len; omega) (g := (mkF m 45 #[.val (.ref a), .val (.ref b), .val (.int (Int32.ofNat o)), .val (.int (Int32.ofNat len)), .val .null, .val (.ref s.heap.size)] [.int (Int32.ofNat N.slots.size), .ref s.heap.size, .ref a])) rfl (by rw [hml]; rfl) c10 (argsL := [.ref s.heap.size, .int (Int32.ofNat N.slots.size)]) (rest := [.ref a]) rfl rfl (by show 2 * 0 + (1 + 0) ≤ _; decide) (hb hbytes d45) (⟨rfl, n1⟩)
  obtain ⟨rfl, q11⟩ := E11
  have hB11 := hB1.mv (X8.warmed.alike.symm.trans X11.warmed.alike) q11
  have c12 : Steps p.tables e below (s₁.setTop (entryFrame m #[.ref a, .ref b, .int (Int32.ofNat o), .int (Int32.ofNat len), .null] 6)) (T11.setTop (mkF m 48 #[.val (.ref a), .val (.ref b), .val (.int (Int32.ofNat o)), .val (.int (Int32.ofNat len)), .val .null, .val (.ref s.heap.size)] [.int 0, .ref a])) := g11
  obtain ⟨T13, X13, p13, bl13, sl13, st13⟩ := X11.finit hexec hown (wk W (.fieldLink "java/lang/String" 15 "java/lang/String" "coder" "B")) (Or.inr ⟨_, (wk W (.laysFinal "java/lang/String" "java/lang/String" "coder" "B"))⟩) (Or.inl ⟨rfl, hnm⟩) f2 (Or.inl rfl) hB11 (t := .byte) (by decide +kernel) rfl (g := (mkF m 48 #[.val (.ref a), .val (.ref b), .val (.int (Int32.ofNat o)), .val (.int (Int32.ofNat len)), .val .null, .val (.ref s.heap.size)] [.int 0, .ref a])) rfl (rest := []) rfl (hb hbytes d48)
  have c14 : Steps p.tables e below (s₁.setTop (entryFrame m #[.ref a, .ref b, .int (Int32.ofNat o), .int (Int32.ofNat len), .null] 6)) (T13.setTop (mkF m 54 #[.val (.ref a), .val (.ref b), .val (.int (Int32.ofNat o)), .val (.int (Int32.ofNat len)), .val .null, .val (.ref s.heap.size)] [.ref s.heap.size, .ref a])) := (c12.trans (st13 _ (Steps.refl _))).trans (by
    refine XS.aloadN X13.here hexec rfl (hb hbytes d51) rfl rfl ?_
    refine XS.aload X13.here hexec rfl (hb hbytes d52) rfl rfl ?_
    exact Steps.refl _)
  obtain ⟨T15, X15, p15, bl15, sl15, st15⟩ := X13.finit hexec hown (wk W (.fieldLink "java/lang/String" 9 "java/lang/String" "value" "[B")) (Or.inr ⟨_, (wk W (.laysFinal "java/lang/String" "java/lang/String" "value" "[B"))⟩) (Or.inl ⟨rfl, hnm⟩) f1 (Or.inl rfl) bl13 (t := (.array .byte)) (by decide +kernel) rfl (g := (mkF m 54 #[.val (.ref a), .val (.ref b), .val (.int (Int32.ofNat o)), .val (.int (Int32.ofNat len)), .val .null, .val (.ref s.heap.size)] [.ref s.heap.size, .ref a])) rfl (rest := []) rfl (hb hbytes d54)
  have c16 : Steps p.tables e below (s₁.setTop (entryFrame m #[.ref a, .ref b, .int (Int32.ofNat o), .int (Int32.ofNat len), .null] 6)) (T15.setTop (mkF m 57 #[.val (.ref a), .val (.ref b), .val (.int (Int32.ofNat o)), .val (.int (Int32.ofNat len)), .val .null, .val (.ref s.heap.size)] [])) := c14.trans (st15 _ (Steps.refl _))
  have ap := apart (Or.inr ⟨_, (wk W (.laysFinal "java/lang/String" "java/lang/String" "value" "[B"))⟩) (Or.inr ⟨_, (wk W (.laysFinal "java/lang/String" "java/lang/String" "coder" "B"))⟩) f1 f2 (t₁ := .array .byte) (t₂ := .byte) (by decide +kernel) (by decide +kernel) (by decide)
  have al := X8.warmed.alike.symm.trans X15.warmed.alike
  have n7 : T11.heap[s.heap.size]? = some N := by rw [q11]; exact n1.1
  exact ⟨T15, none, _, _, _, X15, by simp, rfl, by omega, (fun _ => rfl), ⟨rfl, _, N, bl15, ((Same.refl D _).set _ (by simp)).set _ (by simp), sl15, (Cell.slots_setSlot_ne _ ap).trans sl13, n1.keep al (p15.other hne (p13.other hne n7)), n2, by rw [al.findClass]; exact n3, n4, n5, fun y c h1 h2 => p15.other h1 (p13.other h1 (by rw [q11]; exact n6 y c h2)), by rw [p15.2.2, p13.2.2, q11]; exact z8⟩, fun fs hl => c16.trans (X15.returnOut hexec hret (hb hbytes d57) hl)⟩
end New4
namespace New1
def yN : MethodName := ⟨"java/lang/String", "<init>", "([C)V"⟩
abbrev yB : ByteArray := jdk_42_method_3_code
theorem d0 : decode yB 0 = .ok (.aload_n 0, 1) := by decide +kernel
theorem d1 : decode yB 1 = .ok (.aload_n 1, 1) := by decide +kernel
theorem d2 : decode yB 2 = .ok (.iconst 0, 1) := by decide +kernel
theorem d3 : decode yB 3 = .ok (.aload_n 1, 1) := by decide +kernel
theorem d4 : decode yB 4 = .ok (.arraylength, 1) := by decide +kernel
theorem d5 : decode yB 5 = .ok (.aconst_null, 1) := by decide +kernel
theorem d6 : decode yB 6 = .ok (.invokespecial 27, 3) := by decide +kernel
theorem d9 : decode yB 9 = .ok (.return_, 1) := by decide +kernel
def site : List Cond := [New4.tab] ++ initW "java/lang/String" 27 New4.yN
def tab : Cond := tabOf yN yB 2 none site
def P (a : Addr) (D : Cell) (fV fC : Field) (b : Addr) (A : Cell) (z : Int32) (args : Array Value) (s : State) : Prop := args = #[.ref a, .ref b] ∧ Blank "java/lang/String" a D s ∧ Found "java/lang/String" "value" "[B" fV s ∧ Found "java/lang/String" "coder" "B" fC s ∧ Ch b A s ∧ StaticIs s "java/lang/String" "COMPACT_STRINGS" "Z" (.int z) ∧ ¬ z = 0 ∧ 0 < A.slots.size ∧ A.slots.size ≤ 536870912 ∧ ∀ i, i < A.slots.size → ¬ 255 < cv A i
def E (a : Addr) (D : Cell) (fV fC : Field) (A : Cell) (r : Option Value) (s u : State) : Prop := Got a D fV fC A 0 A.slots.size r s u
/-- new String(chars), not empty, no char above 255: a Latin-1 String of their low bytes -/
theorem law (l : Launch) (a : Addr) (D : Cell) (fV fC : Field) (b : Addr) (A : Cell) (z : Int32) : Law l yN 2 1 3 52 yB 2 none site (P a D fV fC b A z) (E a D fV fC A) [⟨a, fC.slot⟩, ⟨a, fV.slot⟩] 1 A.slots.size := by
  refine Law.of_walk (plainFor_of_name (by decide +kernel)) (by decide +kernel) (by decide +kernel) (by decide) (fun _ _ h => by rw [h.1]; rfl) (fun _ U U' hal hh h => ⟨h.1, h.2.1.mv hal hh, h.2.2.1.al hal, h.2.2.2.1.al hal, h.2.2.2.2.1.mv hal hh, h.2.2.2.2.2.1.there hal hh, h.2.2.2.2.2.2⟩) (fun r U U' V V' h1 hal h2 h => Got.mv r U U' V V' h1 hal h2 h) ?_
  intro p e s m args below meth c s₁ X0 hexec hbytes hml hret hlk hnm hown hh0 W hP
  obtain ⟨rfl, hB, f1, f2, hA, s1, hz, l0, l2, hp⟩ := hP
  have c1 : Steps p.tables e below (s₁.setTop (entryFrame m #[.ref a, .ref b] 2)) (s₁.setTop (mkF m 0 #[.val (.ref a), .val (.ref b)] [])) := entry rfl
  have c2 : Steps p.tables e below (s₁.setTop (entryFrame m #[.ref a, .ref b] 2)) (s₁.setTop (mkF m 6 #[.val (.ref a), .val (.ref b)] [.null, .int (Int32.ofNat A.slots.size), .int 0, .ref b, .ref a])) := c1.trans (by
    refine XS.aloadN X0.here hexec rfl (hb hbytes d0) rfl rfl ?_
    refine XS.aloadN X0.here hexec rfl (hb hbytes d1) rfl rfl ?_
    refine iconstV X0.here hexec rfl 0 (hb hbytes d2) (by decide) ?_
    refine XS.aloadN X0.here hexec rfl (hb hbytes d3) rfl rfl ?_
    refine X0.alen hexec (hA.1.mv X0.warmed.alike hh0) rfl rfl (hb hbytes d4) ?_
    refine XS.aconstNull X0.here hexec rfl (hb hbytes d5) ?_
    exact Steps.refl _)
  obtain ⟨v3, T3, X3, E3, g3⟩ := X0.callN hexec (New4.law l a D fV fC b A z 0 A.slots.size) rfl hown (wks W (initW "java/lang/String" 27 New4.yN)) (W New4.tab (by simp only [site, List.mem_cons, List.mem_append, true_or, or_true])) (W := 0) (Nat.le_of_ble_eq_true rfl) (Nat.le_of_ble_eq_true rfl) (Nat.le_refl _) (by show 0 + A.slots.size ≤ A.slots.size; omega) (g := (mkF m 6 #[.val (.ref a), .val (.ref b)] [.null, .int (Int32.ofNat A.slots.size), .int (Int32.ofNat 0), .ref b, .ref a])) rfl (by rw [hml]; rfl) c2 (argsL := [.ref b, .int (Int32.ofNat 0), .int (Int32.ofNat A.slots.size), .null]) (rest := []) rfl rfl (by show 2 * 0 + 0 ≤ _; decide) (hb hbytes d6) (⟨rfl, hB.mv X0.warmed.alike hh0, f1.al X0.warmed.alike, f2.al X0.warmed.alike, hA.mv X0.warmed.alike hh0, s1.there X0.warmed.alike hh0, hz, l0, by omega, l2, fun i hi => by rw [Nat.zero_add]; exact hp i hi⟩)
  have e0 := Got.mv _ s₁ s _ _ hh0.symm (Vm.Alike.refl _) rfl E3
  obtain rfl := e0.1
  have c4 : Steps p.tables e below (s₁.setTop (entryFrame m #[.ref a, .ref b] 2)) (T3.setTop (mkF m 9 #[.val (.ref a), .val (.ref b)] [])) := g3
  exact ⟨T3, none, _, _, _, X3, by simp, rfl, by omega, (fun _ => rfl), e0, fun fs hl => c4.trans (X3.returnOut hexec hret (hb hbytes d9) hl)⟩
theorem pays {l : Launch} {R : Room} {p : Program} {e : Env} {below : List Frame} {s : State} {sargs : Array Value} {len W : Nat} (a : Addr) (D : Cell) (fV fC : Field) (b : Addr) (A : Cell) (z : Int32) (htab : tab.before sargs s = true) (hfr : 4 ≤ R.frames) (hlo : W + 65 ≤ R.locals) :
    Back l R p e below s sargs yN len W (fun A₁ a₁ => A₁.cells + 1 ≤ R.cells ∧ A₁.slots + A.slots.size ≤ R.slots ∧ P a D fV fC b A z a₁ A₁.U) (fun A₁ _ v₁ B₁ => E a D fV fC A v₁ A₁.U B₁.U ∧ B₁.locs = A₁.locs ++ [⟨a, fC.slot⟩, ⟨a, fV.slot⟩] ∧ B₁.cells = A₁.cells + 1 ∧ B₁.slots = A₁.slots + A.slots.size) :=
  (law l a D fV fC b A z).pays htab hfr (by omega)
end New1
/-- the byte, read back as charAt reads it, is the char -/
theorem lo8_mask {x : Int32} (h0 : ¬ x < 0) (h1 : ¬ 255 < x) : lo8 x &&& 255 = x := by
  have t : ∀ k : Fin 256, lo8 (Int32.ofNat k.val) &&& 255 = Int32.ofNat k.val := by decide +kernel
  rw [Int32.lt_iff_toInt_lt] at h0 h1
  have e0 : (0 : Int32).toInt = 0 := rfl
  have e1 : (255 : Int32).toInt = 255 := rfl
  obtain ⟨k, hk⟩ : ∃ k : Nat, x.toInt = k := ⟨x.toInt.toNat, by omega⟩
  have hx : x = Int32.ofNat k := Int32.toInt_inj.mp (by rw [hk, Int32.toInt_ofNat_small (by omega)])
  rw [hx]
  exact t ⟨k, by omega⟩
end StrChars
namespace StrChars.Road
open Jvm Sem ClassFile Op Lib Jvm.Stand Jvm.Free Jvm.Free.XT
open Jvm.Lib.Cold (StaticIs)
abbrev ST : String := "java/lang/String"
/-- every table word that New1's law asks, flat -/
abbrev words : List Jvm.Cond := [.code New1.yN New1.yB 2 none, .initialized ST, .methodLink ST 27 New4.yN, .instanceMethod New4.yN,
  .code New4.yN New4.yB 6 none, .fieldLink ST 38 ST "COMPACT_STRINGS" "Z", .laysFinal ST ST "value" "[B", .fieldLink ST 9 ST "value" "[B", .laysFinal ST ST "coder" "B", .fieldLink ST 15 ST "coder" "B",
  .methodLink ST 1 Lib.objectInit, .instanceMethod Lib.objectInit, .code Lib.objectInit ⟨#[0xb1]⟩ 1 none, .methodLink ST 177 Cmp3.yN, .static Cmp3.yN, .methodLink ST 47 CodL.yN, .static CodL.yN,
  .code Cmp3.yN Cmp3.yB 6 (some (.array .byte)), .initialized U16, .arrayClass .byte, .methodLink U16 115 Cmp5.yN, .static Cmp5.yN, .code Cmp5.yN Cmp5.yB 7 (some .int), .code CodL.yN CodL.yB 2 (some .byte)]
theorem tab_of {a : Array Value} {s : State} (h : ∀ w ∈ words, w.before a s = true) : New1.tab.before a s = true := by
  have h5 : Cmp5.tab.before a s = true := unparts (wk h (.code Cmp5.yN Cmp5.yB 7 (some .int))) (wks h (.initialized Cmp5.yN.cls :: Cmp5.site))
  have hc : CodL.tab.before a s = true := unparts (wk h (.code CodL.yN CodL.yB 2 (some .byte))) (wks h (.initialized CodL.yN.cls :: CodL.site))
  have q5 : ∀ w ∈ Cmp5.tab :: words, w.before a s = true := fun w hw => (List.mem_cons.mp hw).elim (fun e => e ▸ h5) (h w)
  have h3 : Cmp3.tab.before a s = true := unparts (wk q5 (.code Cmp3.yN Cmp3.yB 6 (some (.array .byte)))) (wks q5 (.initialized Cmp3.yN.cls :: Cmp3.site))
  have q3 : ∀ w ∈ Cmp3.tab :: CodL.tab :: words, w.before a s = true := fun w hw => (List.mem_cons.mp hw).elim (fun e => e ▸ h3) fun hw => (List.mem_cons.mp hw).elim (fun e => e ▸ hc) (h w)
  have h4 : New4.tab.before a s = true := unparts (wk q3 (.code New4.yN New4.yB 6 none)) (wks q3 (.initialized New4.yN.cls :: New4.site))
  have q4 : ∀ w ∈ New4.tab :: words, w.before a s = true := fun w hw => (List.mem_cons.mp hw).elim (fun e => e ▸ h4) (h w)
  exact unparts (wk q4 (.code New1.yN New1.yB 2 none)) (wks q4 (.initialized New1.yN.cls :: New1.site))
/-- the words ride from the start Z to the walk's own state -/
theorem moved {Z s : State} {a0 args : Array Value} (hZ : Z.Warmed39 s.vm) (hw : ∀ d ∈ words, d.before a0 Z = true) : ∀ d ∈ words, d.before args s = true := fun d hd => by
  have q := hw d hd
  have t : ∀ d ∈ words, d = .arrayClass .byte ∨ (d.onTables && d.keepsFace) = true := by decide +kernel
  rcases t d hd with rfl | t
  · exact RoadKit.mvA hZ q
  · exact RoadKit.mv hZ q t
/-- WHAT COMES BACK, over the tables of the start Z: h the heap at the call, h' behind it -/
def Q (Z : State) (x : Addr) (A : Cell) (h : Heap) (v : Option Value) (h' : Heap) (L : List Loc) : Prop := v = none ∧ (∀ y ∈ L, y.base = x) ∧ RoadKit.Keep h h' [x] ∧ h'.size = h.size + 1 ∧ RoadKit.Exa Z h' x ST ∧ RoadKit.Fld Z h' x ST "value" "[B" (.ref h.size) ∧ RoadKit.Fld Z h' x ST "coder" "B" (.int 0) ∧
  (∃ V : Cell, RoadKit.Arr Z h' h.size V .byte ∧ V.vm = .none ∧ Z.vm.findClass "[B" = some V.cls ∧ V.slots.size = A.slots.size ∧ ∀ j, j < A.slots.size → V.slots[j]? = some (.int (lo8 (cv A j)))) ∧
  ∀ (O n d : String) (w : Value), RoadKit.Fld Z h x O n d w → RoadKit.slotOf Z O n d ≠ RoadKit.slotOf Z ST "value" "[B" → RoadKit.slotOf Z O n d ≠ RoadKit.slotOf Z ST "coder" "B" → RoadKit.Fld Z h' x O n d w
/-- **new String(chars) AT A CALL, IN THE ROAD'S FORM**: for specialBack behind newO: x the fresh String, b the char[] with the cell A -/
theorem back {p : Program} {l : Launch} {e : Env} {R : Room} {s : State} {args : Array Value} {below : List Frame} {len W : Nat} {Z : State} {a0 : Array Value} {h : Heap} (hZ : Z.Warmed39 s.vm) (hw : ∀ d ∈ words, d.before a0 Z = true) {kI : Nat} (wi : (Jvm.Cond.instantiable ST kI).before a0 Z = true)
    {x b : Addr} {A : Cell} {z : Int32} {v0 c0 : Value} (E : RoadKit.Exa Z h x ST) (V : RoadKit.Fld Z h x ST "value" "[B" v0) (C : RoadKit.Fld Z h x ST "coder" "B" c0) (K : RoadKit.Arr Z h b A .char) (hty : Typed .char A) (S : RoadKit.Sta Z h ST "COMPACT_STRINGS" "Z" (.int z)) (hz : ¬ z = 0)
    (l0 : 0 < A.slots.size) (l2 : A.slots.size ≤ 536870912) (hp : ∀ i, i < A.slots.size → ¬ 255 < cv A i) (hfr : 4 ≤ R.frames) (hlo : W + 65 ≤ R.locals) :
    Back l R p e below s args New1.yN len W (fun P a => a = #[.ref x, .ref b] ∧ P.U.heap = h ∧ P.cells + 1 ≤ R.cells ∧ P.slots + A.slots.size ≤ R.slots)
      (fun P _ v B => ∃ L, Q Z x A h v B.U.heap L ∧ B.locs = P.locs ++ L ∧ B.cells = P.cells + 1 ∧ B.slots = P.slots + A.slots.size) := by
  intro m meth c P g ig mk a X hg hsize hdg hW hn hp'
  obtain ⟨rfl, rfl, r1, r2⟩ := hp'
  have al : Z.vm.Alike P.U.vm := hZ.alike.trans X.warmed.alike
  obtain ⟨D, cfV, kV, iV, fV, hD, gV, stV, knV, obV, asV, slV⟩ := id V
  obtain ⟨D', cfC, kC, iC, fC, hD', gC, stC, -, -, asC, slC⟩ := id C
  cases hD.symm.trans hD'
  obtain ⟨D2, kD, e1, e2, e3, e4, e5⟩ := id E
  cases hD.symm.trans e1
  obtain ⟨c2, k2, i1, i2, i3, -⟩ := Cond.instantiable_spec wi
  cases e2.symm.trans i1
  cases e3.symm.trans i2
  obtain ⟨kU, u1, u2⟩ := al.2.2 _ _ e3
  have hB : Blank ST x D P.U := ⟨hD, ⟨knV, fun q hq => by rw [hq] at obV; cases obV⟩, by rw [al.findClass]; exact e2, kU, u1, by rw [u2]; exact i3, by rw [u2]; exact e5 i3⟩
  have F1 : Found ST "value" "[B" fV P.U := ⟨SBG.found_only al ⟨cfV, kV, iV, gV⟩, stV⟩
  have F2 : Found ST "coder" "B" fC P.U := ⟨SBG.found_only al ⟨cfC, kC, iC, gC⟩, stC⟩
  have hA : Ch b A P.U := ⟨⟨K.1, State.isArrayOf_alike al K.2.1, K.2.2, by omega⟩, hty⟩
  have hS : StaticIs P.U ST "COMPACT_STRINGS" "Z" (.int z) := by
    obtain ⟨cfS, iS, kS, fS, st, cS, t1, t2, t3, t4, t5, t6, t7⟩ := S
    exact StaticIs.there (s := { Z with heap := P.U.heap }) ⟨cfS, iS, kS, fS, st, cS, t1, t2, t3, t4, t5, (fun q => by rw [q] at t6; cases t6), t7⟩ al rfl
  obtain ⟨v, B, X', ⟨⟨hv, E', V', q1, q2, q3, q4, q5, q6, q7, q8, q9, q10, q11⟩, hl, hc, hs⟩, st⟩ := New1.pays x D fV fC b A z (tab_of (moved hZ hw)) hfr hlo m meth c P g ig mk _ X hg hsize hdg hW hn ⟨r1, r2, rfl, hB, F1, F2, hA, hS, hz, l0, l2, hp⟩
  have al' : Z.vm.Alike B.U.vm := hZ.alike.trans X'.warmed.alike
  have hsz : E'.slots.size = D.slots.size := by
    obtain ⟨-, -, -, kB, w1, w2, w3⟩ := q1
    obtain ⟨kB', y1, y2⟩ := al'.2.2 _ _ e3
    rw [q2.2.1] at w1
    cases w1.symm.trans y1
    rw [w3, e5 i3, y2]
  refine ⟨v, B, X', ⟨_, ⟨hv, ?_, ⟨by omega, fun y cy hy hn' => q10 y cy (by simpa using hn') hy, fun y cy hy => ?_⟩, q11, ⟨E', _, q1.1, by rw [q2.2.1]; exact e2, by rw [q2.2.1]; exact e3, by rw [q2.1]; exact obV, fun _ => by rw [hsz]; exact e5 i3⟩,
    ⟨E', cfV, kV, iV, fV, q1.1, gV, stV, by rw [q2.1]; exact knV, by rw [q2.1]; exact obV, by rw [q2.2.1]; exact asV, q3⟩, ⟨E', cfC, kC, iC, fC, q1.1, gC, stC, by rw [q2.1]; exact knV, by rw [q2.1]; exact obV, by rw [q2.2.1]; exact asC, q4⟩,
    ⟨V', ⟨q5.1, State.isArrayOf_alike al'.symm q5.2.1, q5.2.2.1⟩, q6, by rw [← al'.findClass]; exact q7, q8, fun j hj => by have := q9 j hj; rwa [Nat.zero_add] at this⟩, fun O n d w F n1 n2 => ?_⟩, hl, hc, hs⟩, st⟩
  · intro y hy
    simp only [List.mem_cons, List.not_mem_nil, or_false] at hy
    rcases hy with rfl | rfl <;> rfl
  · by_cases q : y = x
    · subst q
      cases hD.symm.trans hy
      exact ⟨E', q1.1, q2.2.1, q2.1, hsz⟩
    · exact ⟨cy, q10 y cy q hy, rfl, rfl, rfl⟩
  · obtain ⟨D3, cf, k, i, f, g1, g2, g3, g4, g5, g6, g7⟩ := F
    cases hD.symm.trans g1
    simp only [RoadKit.slotOf, g2, gV, gC, Option.map_some, Option.getD_some] at n1 n2
    exact ⟨E', cf, k, i, f, q1.1, g2, g3, by rw [q2.1]; exact g4, by rw [q2.1]; exact g5, by rw [q2.2.1]; exact g6, by rw [q2.2.2 f.slot (by simp [n1, n2])]; exact g7⟩
end StrChars.Road
namespace StrChars.Road
open Jvm Sem ClassFile Op Lib Jvm.Stand Jvm.Free Jvm.Free.XT
/-- WHAT COMES BACK, the byte[] as a list of values -/
def QA (Z : State) (x : Addr) (zn : Int32) (cs : List Int32) (h : Heap) (v : Option Value) (h' : Heap) (L : List Loc) : Prop := v = none ∧ (∀ y ∈ L, y.base = x) ∧ RoadKit.Keep h h' [x] ∧ h'.size = h.size + 1 ∧ RoadKit.Exa Z h' x ST ∧ RoadKit.Fld Z h' x ST "value" "[B" (.ref h.size) ∧ RoadKit.Fld Z h' x ST "coder" "B" (.int 0) ∧
  (∃ kb, Z.vm.findClass "[B" = some kb ∧ RoadKit.Arv Z h' h.size kb .byte zn (cs.map fun c => .int (lo8 c)) (.int 0)) ∧
  ∀ (O n d : String) (w : Value), RoadKit.Fld Z h x O n d w → RoadKit.slotOf Z O n d ≠ RoadKit.slotOf Z ST "value" "[B" → RoadKit.slotOf Z O n d ≠ RoadKit.slotOf Z ST "coder" "B" → RoadKit.Fld Z h' x O n d w
/-- **new String(chars) AT A CALL, THE ARRAYS AS LISTS**: the char[] at b holds cs, not empty, no char above 255 -/
theorem backArv {p : Program} {l : Launch} {e : Env} {R : Room} {s : State} {args : Array Value} {below : List Frame} {len W : Nat} {Z : State} {a0 : Array Value} {h : Heap} (hZ : Z.Warmed39 s.vm) (hw : ∀ d ∈ words, d.before a0 Z = true) {kI : Nat} (wi : (Jvm.Cond.instantiable ST kI).before a0 Z = true)
    {x b : Addr} {k : ClassId} {zn z : Int32} {cs : List Int32} {dv v0 c0 : Value} (E : RoadKit.Exa Z h x ST) (V : RoadKit.Fld Z h x ST "value" "[B" v0) (C : RoadKit.Fld Z h x ST "coder" "B" c0) (K : RoadKit.Arv Z h b k .char zn (cs.map Value.int) dv) (S : RoadKit.Sta Z h ST "COMPACT_STRINGS" "Z" (.int z)) (hz : ¬ z = 0)
    (hlen : zn.toNatClampNeg = cs.length) (h0 : 0 < cs.length) (hbig : cs.length ≤ 536870912) (hall : ∀ c ∈ cs, ¬ 255 < c) (hfr : 4 ≤ R.frames) (hlo : W + 65 ≤ R.locals) :
    Back l R p e below s args New1.yN len W (fun P a => a = #[.ref x, .ref b] ∧ P.U.heap = h ∧ P.cells + 1 ≤ R.cells ∧ P.slots + cs.length ≤ R.slots)
      (fun P _ v B => ∃ L, QA Z x zn cs h v B.U.heap L ∧ B.locs = P.locs ++ L ∧ B.cells = P.cells + 1 ∧ B.slots = P.slots + cs.length) := by
  obtain ⟨A, K1, K2, K3, K4, K5, K6⟩ := K
  have e : A.slots.size = cs.length := K3.trans hlen
  have hat : ∀ (i : Nat) (hi : i < cs.length), A.slots[i]? = some (.int cs[i]) := fun i hi => by rw [K5 i (by omega)]; simp [List.getD_eq_getElem?_getD, hi]
  have hcv : ∀ (i : Nat) (hi : i < cs.length), cv A i = cs[i] := fun i hi => by unfold cv; rw [hat i hi]
  have hty : Typed .char A := fun i v hv => by
    have hi : i < A.slots.size := (Array.getElem?_eq_some_iff.mp hv).1
    have q := K5 i hi
    rw [hv] at q
    rw [Option.some.inj q]
    exact K6 i hi
  refine Back.mono (back hZ hw wi E V C K1 hty S hz (by omega) (by omega) (fun i hi => by rw [hcv i (by omega)]; exact hall _ (List.getElem_mem _)) hfr hlo) (fun P a hp => ⟨hp.1, hp.2.1, hp.2.2.1, by rw [e]; exact hp.2.2.2⟩) (fun P a v B hp hq => ?_)
  obtain ⟨L, ⟨q1, q2, q3, q4, q5, q6, q7, ⟨V', v1, v2, v3, v4, v5⟩, q9⟩, hl, hc, hs⟩ := hq
  refine ⟨L, ⟨q1, q2, q3, q4, q5, q6, q7, ⟨V'.cls, v3, V', v1, rfl, by rw [v4, e, hlen], K4, fun i hi => ?_, fun i hi => ?_⟩, q9⟩, hl, hc, by rw [hs, e]⟩
  · have hi' : i < cs.length := by omega
    rw [v5 i (by omega), hcv i hi']; simp [List.getD_eq_getElem?_getD, hi']
  · have hi' : i < cs.length := by omega
    simp only [List.getD_eq_getElem?_getD, List.getElem?_map, List.getElem?_eq_getElem hi', Option.map_some, Option.getD_some]
    exact fits_lo8 _
end StrChars.Road
namespace StrChars.Road
open Jvm Sem ClassFile Op Lib Jvm.Stand Jvm.Free Jvm.Free.XT
/-- WHAT COMES BACK, in the writer's own shape -/
def QV (Z : State) (x : Addr) (N : Int32) (bs : List Int32) (h : Heap) (n0 : Nat) (v : Option Value) (h' : Heap) (L : List Loc) : Prop := v = none ∧ RoadKit.Fr n0 L ∧ RoadKit.Keep h h' [x] ∧ RoadKit.Exa Z h' x ST ∧ RoadKit.Fld Z h' x ST "coder" "B" (.int 0) ∧
  ∃ (t : Addr) (kb : ClassId), n0 ≤ t ∧ h.size ≤ t ∧ ¬ t = x ∧ RoadKit.Fld Z h' x ST "value" "[B" (.ref t) ∧ RoadKit.Arv Z h' t kb .byte N (bs.map Value.int) (.int 0)
/-- **new String(chars) AT A CALL, FOR THE WRITER**: a char[] of n known ints, each 0 to 255 -/
theorem backV {p : Program} {l : Launch} {e : Env} {R : Room} {s : State} {args : Array Value} {below : List Frame} {len W : Nat} {Z : State} {a0 : Array Value} {h : Heap} (hZ : Z.Warmed39 s.vm) (hw : ∀ d ∈ words, d.before a0 Z = true) {kI : Nat} (wi : (Jvm.Cond.instantiable ST kI).before a0 Z = true)
    {x b : Addr} {kC : ClassId} {cs bs : List Int32} {d v0 c0 : Value} {z N : Int32} {n n0 : Nat} (hx0 : n0 ≤ x) (hh0 : n0 ≤ h.size) (E : RoadKit.Exa Z h x ST) (V : RoadKit.Fld Z h x ST "value" "[B" v0) (C : RoadKit.Fld Z h x ST "coder" "B" c0) (K : RoadKit.Arv Z h b kC .char N (cs.map Value.int) d) (S : RoadKit.Sta Z h ST "COMPACT_STRINGS" "Z" (.int z)) (hz : ¬ z = 0)
    (hn : cs.length = n) (hN : N = Int32.ofNat n) (l0 : 0 < n) (l2 : n ≤ 4000) (hp : ∀ c ∈ cs, ¬ c < 0 ∧ ¬ (255 : Int32) < c) (hb : bs = cs.map (fun c => c.toInt8.toInt32)) (hfr : 4 ≤ R.frames) (hlo : W + 65 ≤ R.locals) :
    Back l R p e below s args (⟨"java/lang/String", "<init>", "([C)V"⟩ : MethodName) len W (fun P a => a = #[.ref x, .ref b] ∧ P.U.heap = h ∧ P.cells + 1 ≤ R.cells ∧ P.slots + n ≤ R.slots)
      (fun P _ v B => ∃ L, QV Z x N bs h n0 v B.U.heap L ∧ B.locs = P.locs ++ L ∧ B.cells = P.cells + 1 ∧ B.slots = P.slots + n) := by
  subst hn hN hb
  refine Back.mono (backArv hZ hw wi E V C K S hz (n32 (by omega)) l0 (by omega) (fun c hc => (hp c hc).2) hfr hlo) (fun P a hp => hp) (fun P a v B hp hq => ?_)
  obtain ⟨L, ⟨q1, q2, q3, q4, q5, q6, q7, ⟨kb, v1, v2⟩, q9⟩, hl, hc, hs⟩ := hq
  exact ⟨L, ⟨q1, fun y hy => by rw [q2 y hy]; exact hx0, q3, q5, q7, h.size, kb, hh0, Nat.le_refl _, Nat.ne_of_gt E.lt, q6, by rw [List.map_map]; exact v2⟩, hl, hc, hs⟩
end StrChars.Road
namespace StrChars
open Jvm Sem ClassFile Op Lib Jvm.Stand Jvm.Free.XT Jvm.Free.ALB Jvm.Free.JM Jvm.Free
open Jvm.Lib.Cold (StaticIs)
def hi8 (x : Int32) : Int32 := lo8 (x >>> ((8 : Int32) &&& 31))
/-- what StringUTF16.getChar makes of two bytes -/
def pairCh (u v : Int32) : Int32 := (((u &&& 255) <<< ((0 : Int32) &&& 31)) ||| ((v &&& 255) <<< ((8 : Int32) &&& 31))).toUInt32.toUInt16.toUInt32.toInt32
theorem lo8_and (x : Int32) : (lo8 x &&& 255).toBitVec.toNat = x.toBitVec.toNat % 256 := by
  have h : (lo8 x).toBitVec = (x.toBitVec.signExtend 8).signExtend 32 := by rw [lo8, Int8.toBitVec_toInt32, Int32.toBitVec_toInt8]
  rw [Int32.toBitVec_and, BitVec.toNat_and, h]
  have e : ((x.toBitVec.signExtend 8).signExtend 32).toNat % 256 = x.toBitVec.toNat % 256 := by
    rw [BitVec.toNat_signExtend]
    have hlt := x.toBitVec.isLt
    simp only [BitVec.toNat_setWidth, BitVec.toNat_signExtend]
    split <;> split <;> omega
  rw [← e]
  exact Nat.and_two_pow_sub_one_eq_mod _ 8
theorem pair_says {c : Int32} (h0 : ¬ c < 0) (h1 : ¬ 65535 < c) : pairCh (lo8 c) (hi8 c) = c := by
  rw [Int32.lt_iff_toInt_lt] at h0 h1
  have e0 : (0 : Int32).toInt = 0 := rfl
  have e1 : (65535 : Int32).toInt = 65535 := rfl
  have hc : c.toInt = c.toBitVec.toNat := by
    have := c.toBitVec.isLt
    have e : c.toInt = c.toBitVec.toInt := rfl
    rw [e] at h0 h1
    rw [e]
    rw [BitVec.toInt_eq_toNat_cond] at h0 h1 ⊢
    split at h0 <;> split <;> omega
  have hn : c.toBitVec.toNat < 65536 := by omega
  have a1 := lo8_and c
  have a2 : (hi8 c &&& 255).toBitVec.toNat = c.toBitVec.toNat / 256 := by
    rw [hi8, lo8_and]
    have e : ((8 : Int32) &&& 31) = 8 := by decide
    rw [e, Int32.toBitVec_shiftRight]
    have e2 : ((8 : Int32).toBitVec.smod 32) = 8#32 := by decide
    rw [e2, BitVec.sshiftRight_eq', BitVec.toNat_sshiftRight_of_msb_false (by rw [BitVec.msb_eq_false_iff_two_mul_lt]; omega)]
    show c.toBitVec.toNat >>> 8 % 256 = _
    rw [Nat.shiftRight_eq_div_pow]
    omega
  unfold pairCh
  apply Int32.toBitVec_inj.mp
  apply BitVec.eq_of_toNat_eq
  have f0 : ((0 : Int32) &&& 31) = 0 := by decide
  have f8 : ((8 : Int32) &&& 31) = 8 := by decide
  rw [f0, f8]
  have g : (((lo8 c &&& 255) <<< (0 : Int32)) ||| ((hi8 c &&& 255) <<< (8 : Int32))).toBitVec.toNat = c.toBitVec.toNat := by
    rw [Int32.toBitVec_or, Int32.toBitVec_shiftLeft, Int32.toBitVec_shiftLeft]
    have s0 : ((0 : Int32).toBitVec.smod 32) = 0#32 := by decide
    have s8 : ((8 : Int32).toBitVec.smod 32) = 8#32 := by decide
    rw [s0, s8, BitVec.toNat_or]
    simp only [BitVec.shiftLeft_eq', BitVec.toNat_shiftLeft, a1, a2]
    show (c.toBitVec.toNat % 256) <<< 0 % 2 ^ 32 ||| (c.toBitVec.toNat / 256) <<< 8 % 2 ^ 32 = _
    rw [Nat.shiftLeft_zero, Nat.mod_eq_of_lt (show c.toBitVec.toNat % 256 < 2 ^ 32 by omega), Nat.mod_eq_of_lt (show (c.toBitVec.toNat / 256) <<< 8 < 2 ^ 32 by rw [Nat.shiftLeft_eq]; omega), Nat.or_comm, ← Nat.shiftLeft_add_eq_or_of_lt (by omega), Nat.shiftLeft_eq]
    omega
  show BitVec.toNat (((((lo8 c &&& 255) <<< (0 : Int32)) ||| ((hi8 c &&& 255) <<< (8 : Int32))).toBitVec.setWidth 16).setWidth 32) = _
  rw [BitVec.toNat_setWidth, BitVec.toNat_setWidth, g]
  omega
end StrChars
namespace StrChars
open Jvm Sem ClassFile Op Lib Jvm.Stand Jvm.Free.XT Jvm.Free.ALB Jvm.Free.JM Jvm.Free
open Jvm.Lib.Cold (StaticIs)
/-- the array's cell V codes the n chars f 0 .. f (n - 1) by the coder cd, as the JDK does: coder 1 just where some char is above 255 -/
def Cod (cd : Int32) (n : Nat) (f : Nat → Int32) (V : Cell) : Prop := (cd = 0 ∧ V.slots.size = n ∧ ∀ j, j < n → V.slots[j]? = some (.int (lo8 (f j))) ∧ ¬ 255 < f j) ∨ (cd = 1 ∧ V.slots.size = 2 * n ∧ (∀ j, j < n → V.slots[2 * j]? = some (.int (lo8 (f j))) ∧ V.slots[2 * j + 1]? = some (.int (hi8 (f j)))) ∧ ∃ j, j < n ∧ 255 < f j)
/-- **x is a String of the n chars f 0 .. f (n - 1)**, Latin-1 or UTF-16; its array at t has the cell V -/
def Txt (x t : Addr) (V : Cell) (cd : Int32) (n : Nat) (f : Nat → Int32) (U : State) : Prop := Exact "java/lang/String" x U ∧ Has x "java/lang/String" "value" "[B" (.ref t) U ∧ Has x "java/lang/String" "coder" "B" (.int cd) U ∧ XT.Arr .byte t V U ∧ Cod cd n f V ∧ ∀ j, j < n → ¬ f j < 0 ∧ ¬ 65535 < f j
theorem Txt.mv {x t : Addr} {V : Cell} {cd : Int32} {n : Nat} {f : Nat → Int32} {U U' : State} (h : Txt x t V cd n f U) (hal : U.vm.Alike U'.vm) (hh : U'.heap = U.heap) : Txt x t V cd n f U' := ⟨h.1.mv hal hh, h.2.1.mv hal hh, h.2.2.1.mv hal hh, h.2.2.2.1.mv hal hh, h.2.2.2.2⟩
end StrChars
namespace StrChars.Road
open Jvm Sem ClassFile Op Lib Jvm.Stand Jvm.Free Jvm.Free.XT
open Jvm.Lib.Cold (StaticIs)
theorem consq {a : Array Value} {s : State} {c : Jvm.Cond} {L : List Jvm.Cond} (h0 : c.before a s = true) (h : ∀ w ∈ L, w.before a s = true) : ∀ w ∈ c :: L, w.before a s = true := fun w hw => (List.mem_cons.mp hw).elim (fun e => e ▸ h0) (h w)
/-- the bytes of the chars cs, low before high -/
def wideBytes : List Int32 → List Value
  | [] => []
  | c :: cs => .int (lo8 c) :: .int (hi8 c) :: wideBytes cs
theorem wide_lo (d : Value) : ∀ (cs : List Int32) (j : Nat), j < cs.length → (wideBytes cs).getD (2 * j) d = .int (lo8 (cs.getD j 0))
  | [], j, h => absurd h (Nat.not_lt_zero j)
  | c :: cs, 0, _ => rfl
  | c :: cs, j + 1, h => by
    have q := wide_lo d cs j (by simpa using h)
    rw [show 2 * (j + 1) = 2 * j + 1 + 1 from by omega]
    simpa [wideBytes] using q
theorem wide_hi (d : Value) : ∀ (cs : List Int32) (j : Nat), j < cs.length → (wideBytes cs).getD (2 * j + 1) d = .int (hi8 (cs.getD j 0))
  | [], j, h => absurd h (Nat.not_lt_zero j)
  | c :: cs, 0, _ => rfl
  | c :: cs, j + 1, h => by
    have q := wide_hi d cs j (by simpa using h)
    rw [show 2 * (j + 1) + 1 = 2 * j + 1 + 1 + 1 from by omega]
    simpa [wideBytes] using q
theorem low_at (d : Value) (cs : List Int32) (j : Nat) (h : j < cs.length) : (cs.map fun c => Value.int (lo8 c)).getD j d = .int (lo8 (cs.getD j 0)) := by
  simp [List.getD_eq_getElem?_getD, h]
/-- an array of N2 bytes vs codes the chars cs by the coder cd -/
def CodA (cs : List Int32) (cd N2 : Int32) (vs : List Value) : Prop := (cd = 0 ∧ N2 = Int32.ofNat cs.length ∧ vs = (cs.map fun c => Value.int (lo8 c)) ∧ ∀ c ∈ cs, ¬ 255 < c) ∨ (cd = 1 ∧ N2 = Int32.ofNat (2 * cs.length) ∧ vs = wideBytes cs ∧ ∃ c ∈ cs, 255 < c)
theorem CodA.cod {cs : List Int32} {cd N2 : Int32} {vs : List Value} {V : Cell} (h : CodA cs cd N2 vs) (hn : 2 * cs.length < 2 ^ 31) (hs : V.slots.size = N2.toNatClampNeg) (hv : RoadKit.Has V vs (.int 0)) : Cod cd cs.length (fun j => cs.getD j 0) V := by
  rcases h with ⟨rfl, rfl, rfl, h⟩ | ⟨rfl, rfl, rfl, c, hc, hw⟩
  · rw [n32 (by omega)] at hs
    exact Or.inl ⟨rfl, hs, fun j hj => ⟨by rw [hv j (by omega), low_at _ _ _ hj], by
      have e : cs.getD j 0 = cs[j] := by simp [List.getD_eq_getElem?_getD, hj]
      show ¬ 255 < cs.getD j 0
      rw [e]; exact h _ (List.getElem_mem _)⟩⟩
  · rw [n32 (by omega)] at hs
    obtain ⟨j, hj, rfl⟩ := List.getElem_of_mem hc
    exact Or.inr ⟨rfl, hs, fun j hj => ⟨by rw [hv _ (by omega), wide_lo _ _ _ hj], by rw [hv _ (by omega), wide_hi _ _ _ hj]⟩, j, hj, by
      have e : cs.getD j 0 = cs[j] := by simp [List.getD_eq_getElem?_getD, hj]
      show 255 < cs.getD j 0
      rw [e]; exact hw⟩
/-- an object of exactly java/lang/String, its two fields found: as the laws ask it -/
theorem strObj {Z U : State} {a0 : Array Value} {kI : Nat} (wi : (Jvm.Cond.instantiable ST kI).before a0 Z = true) (al : Z.vm.Alike U.vm) {x : Addr} {v0 c0 : Value} (E : RoadKit.Exa Z U.heap x ST) (V : RoadKit.Fld Z U.heap x ST "value" "[B" v0) (C : RoadKit.Fld Z U.heap x ST "coder" "B" c0) :
    ∃ (D : Cell) (fV fC : Field), Blank ST x D U ∧ Found ST "value" "[B" fV U ∧ Found ST "coder" "B" fC U ∧ D.slots[fV.slot]? = some v0 ∧ D.slots[fC.slot]? = some c0 ∧ RoadKit.slotOf Z ST "value" "[B" = fV.slot ∧ RoadKit.slotOf Z ST "coder" "B" = fC.slot := by
  obtain ⟨D, cfV, kV, iV, fV, hD, gV, stV, knV, obV, asV, slV⟩ := V
  obtain ⟨D', cfC, kC, iC, fC, hD', gC, stC, -, -, asC, slC⟩ := C
  cases hD.symm.trans hD'
  obtain ⟨D2, kD, e1, e2, e3, e4, e5⟩ := E
  cases hD.symm.trans e1
  obtain ⟨c2, k2, i1, i2, i3, -⟩ := Cond.instantiable_spec wi
  cases e2.symm.trans i1
  cases e3.symm.trans i2
  obtain ⟨kU, u1, u2⟩ := al.2.2 _ _ e3
  exact ⟨D, fV, fC, ⟨hD, ⟨knV, fun q hq => by rw [hq] at obV; cases obV⟩, by rw [al.findClass]; exact e2, kU, u1, by rw [u2]; exact i3, by rw [u2]; exact e5 i3⟩, ⟨SBG.found_only al ⟨cfV, kV, iV, gV⟩, stV⟩, ⟨SBG.found_only al ⟨cfC, kC, iC, gC⟩, stC⟩, slV, slC, by simp [RoadKit.slotOf, gV], by simp [RoadKit.slotOf, gC]⟩
theorem sta_is {Z U : State} (al : Z.vm.Alike U.vm) {C n d : String} {v : Value} (S : RoadKit.Sta Z U.heap C n d v) : StaticIs U C n d v := by
  obtain ⟨cfS, iS, kS, fS, st, cS, t1, t2, t3, t4, t5, t6, t7⟩ := S
  exact StaticIs.there (s := { Z with heap := U.heap }) ⟨cfS, iS, kS, fS, st, cS, t1, t2, t3, t4, t5, (fun q => by rw [q] at t6; cases t6), t7⟩ al rfl
end StrChars.Road
namespace StrChars
open Jvm Sem ClassFile Op Lib Jvm.Stand Jvm.Free.XT Jvm.Free.ALB Jvm.Free.JM Jvm.Free
open Jvm.Lib.Cold (StaticIs)
/-- what place i of a byte[]'s cell holds -/
def yv (A : Cell) (i : Nat) : Int32 := match A.slots[i]? with | some (.int x) => x | _ => 0
theorem yv_get {a : Addr} {A : Cell} {U : State} (h : XT.Arr .byte a A U) (ht : Typed .byte A) {i : Nat} (hi : i < A.slots.size) : A.slots[i]? = some (.int (yv A i)) := by
  have e := Array.getElem?_eq_getElem hi
  have f := ht i _ e
  unfold yv; rw [e]
  generalize A.slots[i] = v at f
  cases v <;> simp [fits] at f ⊢
/-- the two arrays are equal, place for place -/
def EqC (A B : Cell) : Prop := A.slots.size = B.slots.size ∧ ∀ i, i < A.slots.size → yv A i = yv B i
/-- a boolean that says whether p -/
def Says01 (q : Prop) (r : Option Value) (s u : State) : Prop := ∃ v : Int32, r = some (.int v) ∧ u.heap = s.heap ∧ ((v = 1 ∧ q) ∨ (v = 0 ∧ ¬ q))
theorem Says01.mv {q : Prop} : ∀ r (U U' V V' : State), U'.heap = U.heap → V.vm.Alike V'.vm → V'.heap = V.heap → Says01 q r U V → Says01 q r U' V' :=
  fun r U U' V V' h1 _ h2 ⟨v, a, b, c⟩ => ⟨v, a, by rw [h1, h2]; exact b, c⟩
namespace LEq
def yN : MethodName := ⟨"java/lang/StringLatin1", "equals", "([B[B)Z"⟩
abbrev yB : ByteArray := jdk_43_method_13_code
theorem d0 : decode yB 0 = .ok (.aload_n 0, 1) := by decide +kernel
theorem d1 : decode yB 1 = .ok (.arraylength, 1) := by decide +kernel
theorem d2 : decode yB 2 = .ok (.aload_n 1, 1) := by decide +kernel
theorem d3 : decode yB 3 = .ok (.arraylength, 1) := by decide +kernel
theorem d4 : decode yB 4 = .ok (.if_icmp (.ne) 30, 3) := by decide +kernel
theorem d7 : decode yB 7 = .ok (.iconst 0, 1) := by decide +kernel
theorem d8 : decode yB 8 = .ok (.istore_n 2, 1) := by decide +kernel
theorem d9 : decode yB 9 = .ok (.iload_n 2, 1) := by decide +kernel
theorem d10 : decode yB 10 = .ok (.aload_n 0, 1) := by decide +kernel
theorem d11 : decode yB 11 = .ok (.arraylength, 1) := by decide +kernel
theorem d12 : decode yB 12 = .ok (.if_icmp (.ge) 20, 3) := by decide +kernel
theorem d15 : decode yB 15 = .ok (.aload_n 0, 1) := by decide +kernel
theorem d16 : decode yB 16 = .ok (.iload_n 2, 1) := by decide +kernel
theorem d17 : decode yB 17 = .ok (.baload, 1) := by decide +kernel
theorem d18 : decode yB 18 = .ok (.aload_n 1, 1) := by decide +kernel
theorem d19 : decode yB 19 = .ok (.iload_n 2, 1) := by decide +kernel
theorem d20 : decode yB 20 = .ok (.baload, 1) := by decide +kernel
theorem d21 : decode yB 21 = .ok (.if_icmp (.eq) 5, 3) := by decide +kernel
theorem d24 : decode yB 24 = .ok (.iconst 0, 1) := by decide +kernel
theorem d25 : decode yB 25 = .ok (.ireturn, 1) := by decide +kernel
theorem d26 : decode yB 26 = .ok (.iinc 2 1, 3) := by decide +kernel
theorem d29 : decode yB 29 = .ok (.goto (-20), 3) := by decide +kernel
theorem d32 : decode yB 32 = .ok (.iconst 1, 1) := by decide +kernel
theorem d33 : decode yB 33 = .ok (.ireturn, 1) := by decide +kernel
theorem d34 : decode yB 34 = .ok (.iconst 0, 1) := by decide +kernel
theorem d35 : decode yB 35 = .ok (.ireturn, 1) := by decide +kernel
def site : List Cond := []
def tab : Cond := tabOf yN yB 3 (some .boolean) site
def P (a : Addr) (A : Cell) (b : Addr) (B : Cell) (args : Array Value) (s : State) : Prop := args = #[.ref a, .ref b] ∧ XT.Arr .byte a A s ∧ Typed .byte A ∧ XT.Arr .byte b B s ∧ Typed .byte B
/-- whether two byte[] are equal, place for place -/
theorem law (l : Launch) (a : Addr) (A : Cell) (b : Addr) (B : Cell) : Law l yN 2 2 0 0 yB 3 (some .boolean) site (P a A b B) (Says01 (EqC A B)) [] 0 0 := by
  refine Law.of_walk (plainFor_of_name (by decide +kernel)) (by decide +kernel) (by decide +kernel) (by decide) (fun _ _ h => by rw [h.1]; rfl) (fun _ U U' hal hh h => ⟨h.1, h.2.1.mv hal hh, h.2.2.1, h.2.2.2.1.mv hal hh, h.2.2.2.2⟩) (fun r U U' V V' h1 hal h2 h => Says01.mv r U U' V V' h1 hal h2 h) ?_
  intro p e s m args below meth c s₁ X0 hexec hbytes hml hret hlk hnm hown hh0 W hP
  obtain ⟨rfl, hA, tA, hB, tB⟩ := hP
  have a31 := hA.2.2.2
  have b31 := hB.2.2.2
  have hA0 := hA.mv X0.warmed.alike hh0
  have hB0 := hB.mv X0.warmed.alike hh0
  have c1 : Steps p.tables e below (s₁.setTop (entryFrame m #[.ref a, .ref b] 3)) (s₁.setTop (mkF m 0 #[.val (.ref a), .val (.ref b), .unset] [])) := entry rfl
  have c2 : Steps p.tables e below (s₁.setTop (entryFrame m #[.ref a, .ref b] 3)) (s₁.setTop (mkF m 4 #[.val (.ref a), .val (.ref b), .unset] [.int (Int32.ofNat B.slots.size), .int (Int32.ofNat A.slots.size)])) := c1.trans (by
    refine XS.aloadN X0.here hexec rfl (hb hbytes d0) rfl rfl ?_
    refine X0.alen hexec hA0 rfl rfl (hb hbytes d1) ?_
    refine XS.aloadN X0.here hexec rfl (hb hbytes d2) rfl rfl ?_
    refine X0.alen hexec hB0 rfl rfl (hb hbytes d3) ?_
    exact Steps.refl _)
  by_cases hs : A.slots.size = B.slots.size
  · have c3 : Steps p.tables e below (s₁.setTop (entryFrame m #[.ref a, .ref b] 3)) (s₁.setTop (mkF m 9 #[.val (.ref a), .val (.ref b), .val (.int 0)] [])) := c2.trans (by
      refine XS.icmpNo X0.here hexec rfl (hb hbytes d4) rfl (ii_ne_f (by rw [hs])) ?_
      refine iconstV X0.here hexec rfl 0 (hb hbytes d7) (by decide) ?_
      refine XS.istoreN X0.here hexec rfl (hb hbytes d8) rfl rfl ?_
      exact Steps.refl _)
    have loop : ∀ (r i : Nat), i + r = A.slots.size → (∀ j, j < i → yv A j = yv B j) → Steps p.tables e below (s₁.setTop (entryFrame m #[.ref a, .ref b] 3)) (s₁.setTop (mkF m 9 #[.val (.ref a), .val (.ref b), .val (.int (Int32.ofNat i))] [])) → ∃ (pc : Nat) (Ls : Array Slot) (v : Int32), (pc = 25 ∨ pc = 33) ∧ ((v = 1 ∧ EqC A B) ∨ (v = 0 ∧ ¬ EqC A B)) ∧ Steps p.tables e below (s₁.setTop (entryFrame m #[.ref a, .ref b] 3)) (s₁.setTop (mkF m pc Ls [.int v])) := by
      intro r
      induction r with
      | zero =>
        intro i hi he cl
        exact ⟨33, _, 1, Or.inr rfl, Or.inl ⟨rfl, hs, fun j hj => he j (by omega)⟩, cl.trans (by
          refine XS.iloadN X0.here hexec rfl (hb hbytes d9) rfl ?_
          refine XS.aloadN X0.here hexec rfl (hb hbytes d10) rfl rfl ?_
          refine X0.alen hexec hA0 rfl rfl (hb hbytes d11) ?_
          refine XS.icmpYes X0.here hexec rfl (pc0 := 12) rfl (hb hbytes d12) rfl (ii_ge_t (nlt32 (by omega) (by omega))) (by decide) rfl ?_
          refine iconstV X0.here hexec rfl 1 (hb hbytes d32) (by decide) ?_
          exact Steps.refl _)⟩
      | succ r ih =>
        intro i hi he cl
        have c4 : Steps p.tables e below (s₁.setTop (entryFrame m #[.ref a, .ref b] 3)) (s₁.setTop (mkF m 21 #[.val (.ref a), .val (.ref b), .val (.int (Int32.ofNat i))] [.int (yv B i), .int (yv A i)])) := cl.trans (by
          refine XS.iloadN X0.here hexec rfl (hb hbytes d9) rfl ?_
          refine XS.aloadN X0.here hexec rfl (hb hbytes d10) rfl rfl ?_
          refine X0.alen hexec hA0 rfl rfl (hb hbytes d11) ?_
          refine XS.icmpNo X0.here hexec rfl (hb hbytes d12) rfl (ii_ge_f (lt32 (by omega) (by omega))) ?_
          refine XS.aloadN X0.here hexec rfl (hb hbytes d15) rfl rfl ?_
          refine XS.iloadN X0.here hexec rfl (hb hbytes d16) rfl ?_
          refine X0.aget hexec hA0 rfl (yv_get hA tA (i := i) (by omega)) rfl rfl (hb hbytes d17) ?_
          refine XS.aloadN X0.here hexec rfl (hb hbytes d18) rfl rfl ?_
          refine XS.iloadN X0.here hexec rfl (hb hbytes d19) rfl ?_
          refine X0.aget hexec hB0 rfl (yv_get hB tB (i := i) (by omega)) rfl rfl (hb hbytes d20) ?_
          exact Steps.refl _)
        by_cases hv : yv A i = yv B i
        · have c5 : Steps p.tables e below (s₁.setTop (entryFrame m #[.ref a, .ref b] 3)) (s₁.setTop (mkF m 9 #[.val (.ref a), .val (.ref b), .val (.int (Int32.ofNat i + 1))] [])) := c4.trans (by
            refine XS.icmpYes X0.here hexec rfl (pc0 := 21) rfl (hb hbytes d21) rfl (ii_eq_t hv) (by decide) rfl ?_
            refine iincV X0.here hexec rfl 1 (hb hbytes d26) (by decide) rfl rfl ?_
            refine XS.goto X0.here hexec rfl (pc0 := 29) rfl (hb hbytes d29) (by decide) rfl ?_
            exact Steps.refl _)
          rw [succ32] at c5
          exact ih (i + 1) (by omega) (fun j hj => by
            by_cases e : j = i
            · rw [e]; exact hv
            · exact he j (by omega)) c5
        · exact ⟨25, _, 0, Or.inl rfl, Or.inr ⟨rfl, fun q => hv (q.2 i (by omega))⟩, c4.trans (by
            refine XS.icmpNo X0.here hexec rfl (hb hbytes d21) rfl (ii_eq_f hv) ?_
            refine iconstV X0.here hexec rfl 0 (hb hbytes d24) (by decide) ?_
            exact Steps.refl _)⟩
    obtain ⟨pc, Ls, v, hpc, hv, cz⟩ := loop A.slots.size 0 (by omega) (fun j hj => absurd hj (Nat.not_lt_zero j)) c3
    have nv : narrow .boolean (.int v) = .int v := by rcases hv with ⟨rfl, -⟩ | ⟨rfl, -⟩ <;> rfl
    rcases hpc with rfl | rfl
    · exact ⟨s₁, some (.int v), _, _, _, X0, rfl, rfl, rfl, (fun h => by cases h), ⟨v, rfl, hh0, hv⟩, fun fs hl => cz.trans (X0.ireturnOut hexec hret nv (Or.inr (Or.inl rfl)) (hb hbytes d25) hl)⟩
    · exact ⟨s₁, some (.int v), _, _, _, X0, rfl, rfl, rfl, (fun h => by cases h), ⟨v, rfl, hh0, hv⟩, fun fs hl => cz.trans (X0.ireturnOut hexec hret nv (Or.inr (Or.inl rfl)) (hb hbytes d33) hl)⟩
  · have c3 : Steps p.tables e below (s₁.setTop (entryFrame m #[.ref a, .ref b] 3)) (s₁.setTop (mkF m 35 #[.val (.ref a), .val (.ref b), .unset] [.int 0])) := c2.trans (by
      refine XS.icmpYes X0.here hexec rfl (pc0 := 4) rfl (hb hbytes d4) rfl (ii_ne_t (ne32 a31 b31 hs)) (by decide) rfl ?_
      refine iconstV X0.here hexec rfl 0 (hb hbytes d34) (by decide) ?_
      exact Steps.refl _)
    exact ⟨s₁, some (.int 0), _, _, _, X0, rfl, rfl, rfl, (fun h => by cases h), ⟨0, rfl, hh0, Or.inr ⟨rfl, fun q => hs q.1⟩⟩, fun fs hl => c3.trans (X0.ireturnOut hexec hret rfl (Or.inr (Or.inl rfl)) (hb hbytes d35) hl)⟩
end LEq
theorem Cod.ty {cd : Int32} {n : Nat} {f : Nat → Int32} {V : Cell} (h : Cod cd n f V) : Typed .byte V := fun i v hv => by
  have hi : i < V.slots.size := (Array.getElem?_eq_some_iff.mp hv).1
  rcases h with ⟨-, k1, k2⟩ | ⟨-, k1, k2, -⟩
  · rw [(k2 i (by omega)).1] at hv; cases hv; exact fits_lo8 _
  · rcases Nat.mod_two_eq_zero_or_one i with e | e
    · obtain ⟨j, rfl⟩ : ∃ j, i = 2 * j := ⟨i / 2, by omega⟩
      rw [(k2 j (by omega)).1] at hv; cases hv; exact fits_lo8 _
    · obtain ⟨j, rfl⟩ : ∃ j, i = 2 * j + 1 := ⟨i / 2, by omega⟩
      rw [(k2 j (by omega)).2] at hv; cases hv; exact fits_lo8 _
/-- the same text -/
def SameT (n : Nat) (f : Nat → Int32) (k : Nat) (g : Nat → Int32) : Prop := n = k ∧ ∀ j, j < n → f j = g j
theorem lo8_inj {x y : Int32} (h0 : ¬ x < 0) (h1 : ¬ 255 < x) (k0 : ¬ y < 0) (k1 : ¬ 255 < y) (h : lo8 x = lo8 y) : x = y := by
  rw [← lo8_mask h0 h1, ← lo8_mask k0 k1, h]
/-- arrays coded by one coder are equal just where the texts are -/
theorem Cod.eqv {cd : Int32} {n k : Nat} {f g : Nat → Int32} {V V' : Cell} (h : Cod cd n f V) (h' : Cod cd k g V') (hf : ∀ j, j < n → ¬ f j < 0 ∧ ¬ 65535 < f j) (hg : ∀ j, j < k → ¬ g j < 0 ∧ ¬ 65535 < g j) : EqC V V' ↔ SameT n f k g := by
  have yvv : ∀ {W : Cell} {i : Nat} {x : Int32}, W.slots[i]? = some (.int x) → yv W i = x := fun q => by unfold yv; rw [q]
  rcases h with ⟨rfl, k1, k2⟩ | ⟨rfl, k1, k2, -⟩
  · rcases h' with ⟨-, m1, m2⟩ | ⟨e, -⟩
    · constructor
      · rintro ⟨e1, e2⟩
        refine ⟨by omega, fun j hj => ?_⟩
        have q := e2 j (by omega)
        rw [yvv (k2 j hj).1, yvv (m2 j (by omega)).1] at q
        exact lo8_inj (hf j hj).1 (k2 j hj).2 (hg j (by omega)).1 (m2 j (by omega)).2 q
      · rintro ⟨rfl, e2⟩
        refine ⟨by omega, fun j hj => ?_⟩
        rw [yvv (k2 j (by omega)).1, yvv (m2 j (by omega)).1, e2 j (by omega)]
    · exact absurd e (by decide)
  · rcases h' with ⟨e, -⟩ | ⟨-, m1, m2, -⟩
    · exact absurd e (by decide)
    · constructor
      · rintro ⟨e1, e2⟩
        refine ⟨by omega, fun j hj => ?_⟩
        have q1 := e2 (2 * j) (by omega)
        have q2 := e2 (2 * j + 1) (by omega)
        rw [yvv (k2 j hj).1, yvv (m2 j (by omega)).1] at q1
        rw [yvv (k2 j hj).2, yvv (m2 j (by omega)).2] at q2
        rw [← pair_says (hf j hj).1 (hf j hj).2, ← pair_says (hg j (by omega)).1 (hg j (by omega)).2, q1, q2]
      · rintro ⟨rfl, e2⟩
        refine ⟨by omega, fun i hi => ?_⟩
        rcases Nat.mod_two_eq_zero_or_one i with e | e
        · obtain ⟨j, rfl⟩ : ∃ j, i = 2 * j := ⟨i / 2, by omega⟩
          rw [yvv (k2 j (by omega)).1, yvv (m2 j (by omega)).1, e2 j (by omega)]
        · obtain ⟨j, rfl⟩ : ∃ j, i = 2 * j + 1 := ⟨i / 2, by omega⟩
          rw [yvv (k2 j (by omega)).2, yvv (m2 j (by omega)).2, e2 j (by omega)]
/-- two codings differ: so do the texts -/
theorem Cod.dif {cd cd' : Int32} {n k : Nat} {f g : Nat → Int32} {V V' : Cell} (h : Cod cd n f V) (h' : Cod cd' k g V') (hne : ¬ cd = cd') : ¬ SameT n f k g := by
  rintro ⟨rfl, e⟩
  rcases h with ⟨rfl, -, k2⟩ | ⟨rfl, -, -, j, hj, hw⟩
  · rcases h' with ⟨rfl, -⟩ | ⟨-, -, -, j, hj, hw⟩
    · exact hne rfl
    · exact (k2 j hj).2 (by rw [e j hj]; exact hw)
  · rcases h' with ⟨-, -, m2⟩ | ⟨rfl, -⟩
    · exact (m2 j hj).2 (by rw [← e j hj]; exact hw)
    · exact hne rfl
/-- an object of exactly C is an instance of C -/
theorem cinst {p : Program} {l : Launch} {e : Env} {R : Room} {s : State} {m : MethodId} {args : Array Value} {below : List Frame} {meth : Method} {c : Code} {T : State} {locs : List Loc} {cells slots : Nat} (X : Stand p l e R s m args below meth c T locs cells slots) (hexec : p.tables.exec = Jvm.exec) {own C : String} {index : Nat} (hown : s.vm.findClass own = some m.cls) (hlink : (Cond.classLink own index C).before args s = true) {a : Addr} (hE : Exact C a T)
    {g : JFrame} (hg : g.method = m) {rest : List Value} (hstack : g.stack = .ref a :: rest) (hdg : decode c.code g.pc = .ok (.instanceof index, 3)) :
    ∃ T', Stand p l e R s m args below meth c T' locs cells slots ∧ T'.heap = T.heap ∧ ∀ target, Steps p.tables e below (T'.setTop { g with pc := g.pc + 3, stack := .int 1 :: rest }) target → Steps p.tables e below (T.setTop g) target := by
  obtain ⟨cB, h1, D, h2, h3, h4⟩ := hE
  have h1' : s.vm.findClass C = some cB := by rw [← X.warmed.alike.findClass]; exact h1
  obtain ⟨vm', X', st⟩ := X.instanceofYes hexec hown hlink h2 h4 h1' (by rw [h3]; exact Jvm.Free.SB.assignable_self _ _) hg hstack hdg
  exact ⟨_, X', rfl, st⟩
theorem cself {p : Program} {l : Launch} {e : Env} {R : Room} {s : State} {m : MethodId} {args : Array Value} {below : List Frame} {meth : Method} {c : Code} {T : State} {locs : List Loc} {cells slots : Nat} (X : Stand p l e R s m args below meth c T locs cells slots) (hexec : p.tables.exec = Jvm.exec) {own C : String} {index : Nat} (hown : s.vm.findClass own = some m.cls) (hlink : (Cond.classLink own index C).before args s = true) {a : Addr} (hE : Exact C a T)
    {g : JFrame} (hg : g.method = m) {rest : List Value} (hstack : g.stack = .ref a :: rest) (hdg : decode c.code g.pc = .ok (.checkcast index, 3)) :
    ∃ T', Stand p l e R s m args below meth c T' locs cells slots ∧ T'.heap = T.heap ∧ ∀ target, Steps p.tables e below (T'.setTop { g with pc := g.pc + 3, stack := .ref a :: rest }) target → Steps p.tables e below (T.setTop g) target := by
  obtain ⟨cB, h1, D, h2, h3, h4⟩ := hE
  have h1' : s.vm.findClass C = some cB := by rw [← X.warmed.alike.findClass]; exact h1
  obtain ⟨vm', X', st⟩ := X.checkcastYes hexec hown hlink h2 h4 h1' (by rw [h3]; exact Jvm.Free.SB.assignable_self _ _) hg hstack hdg
  exact ⟨_, X', rfl, fun t h => st t (by rw [← hstack] at h; exact h)⟩
namespace SEq
def yN : MethodName := ⟨"java/lang/String", "equals", "(Ljava/lang/Object;)Z"⟩
abbrev yB : ByteArray := jdk_42_method_66_code
theorem d0 : decode yB 0 = .ok (.aload_n 0, 1) := by decide +kernel
theorem d1 : decode yB 1 = .ok (.aload_n 1, 1) := by decide +kernel
theorem d2 : decode yB 2 = .ok (.if_acmp (.ne) 5, 3) := by decide +kernel
theorem d5 : decode yB 5 = .ok (.iconst 1, 1) := by decide +kernel
theorem d6 : decode yB 6 = .ok (.ireturn, 1) := by decide +kernel
theorem d7 : decode yB 7 = .ok (.aload_n 1, 1) := by decide +kernel
theorem d8 : decode yB 8 = .ok (.instanceof 10, 3) := by decide +kernel
theorem d11 : decode yB 11 = .ok (.ifCond (.eq) 43, 3) := by decide +kernel
theorem d14 : decode yB 14 = .ok (.aload_n 1, 1) := by decide +kernel
theorem d15 : decode yB 15 = .ok (.checkcast 10, 3) := by decide +kernel
theorem d18 : decode yB 18 = .ok (.astore_n 2, 1) := by decide +kernel
theorem d19 : decode yB 19 = .ok (.getstatic 38, 3) := by decide +kernel
theorem d22 : decode yB 22 = .ok (.ifCond (.eq) 14, 3) := by decide +kernel
theorem d25 : decode yB 25 = .ok (.aload_n 0, 1) := by decide +kernel
theorem d26 : decode yB 26 = .ok (.getfield 15, 3) := by decide +kernel
theorem d29 : decode yB 29 = .ok (.aload_n 2, 1) := by decide +kernel
theorem d30 : decode yB 30 = .ok (.getfield 15, 3) := by decide +kernel
theorem d33 : decode yB 33 = .ok (.if_icmp (.ne) 21, 3) := by decide +kernel
theorem d36 : decode yB 36 = .ok (.aload_n 0, 1) := by decide +kernel
theorem d37 : decode yB 37 = .ok (.getfield 9, 3) := by decide +kernel
theorem d40 : decode yB 40 = .ok (.aload_n 2, 1) := by decide +kernel
theorem d41 : decode yB 41 = .ok (.getfield 9, 3) := by decide +kernel
theorem d44 : decode yB 44 = .ok (.invokestatic 541, 3) := by decide +kernel
theorem d47 : decode yB 47 = .ok (.ifCond (.eq) 7, 3) := by decide +kernel
theorem d50 : decode yB 50 = .ok (.iconst 1, 1) := by decide +kernel
theorem d51 : decode yB 51 = .ok (.goto 4, 3) := by decide +kernel
theorem d54 : decode yB 54 = .ok (.iconst 0, 1) := by decide +kernel
theorem d55 : decode yB 55 = .ok (.ireturn, 1) := by decide +kernel
def site : List Cond := [.classLink "java/lang/String" 10 "java/lang/String", .fieldLink "java/lang/String" 38 "java/lang/String" "COMPACT_STRINGS" "Z", .fieldLink "java/lang/String" 15 "java/lang/String" "coder" "B", .fieldLink "java/lang/String" 9 "java/lang/String" "value" "[B", LEq.tab] ++ staticW "java/lang/String" 541 LEq.yN
def tab : Cond := tabOf yN yB 3 (some .boolean) site
def P (x t : Addr) (V : Cell) (cd : Int32) (n : Nat) (f : Nat → Int32) (y t' : Addr) (V' : Cell) (cd' : Int32) (k : Nat) (g : Nat → Int32) (z : Int32) (args : Array Value) (s : State) : Prop := args = #[.ref x, .ref y] ∧ Txt x t V cd n f s ∧ Txt y t' V' cd' k g s ∧ StaticIs s "java/lang/String" "COMPACT_STRINGS" "Z" (.int z) ∧ ¬ z = 0
/-- equals(Object) of two Strings: whether the texts are the same -/
theorem law (l : Launch) (x t : Addr) (V : Cell) (cd : Int32) (n : Nat) (f : Nat → Int32) (y t' : Addr) (V' : Cell) (cd' : Int32) (k : Nat) (g : Nat → Int32) (z : Int32) : Law l yN 2 1 1 14 yB 3 (some .boolean) site (P x t V cd n f y t' V' cd' k g z) (Says01 (SameT n f k g)) [] 0 0 := by
  refine Law.of_walk (plainFor_of_name (by decide +kernel)) (by decide +kernel) (by decide +kernel) (by decide) (fun _ _ h => by rw [h.1]; rfl) (fun _ U U' hal hh h => ⟨h.1, h.2.1.mv hal hh, h.2.2.1.mv hal hh, h.2.2.2.1.there hal hh, h.2.2.2.2⟩) (fun r U U' V V' h1 hal h2 h => Says01.mv r U U' V V' h1 hal h2 h) ?_
  intro p e s m args below meth c s₁ X0 hexec hbytes hml hret hlk hnm hown hh0 W hP
  obtain ⟨rfl, hx, hy, s1, hz⟩ := hP
  have c1 : Steps p.tables e below (s₁.setTop (entryFrame m #[.ref x, .ref y] 3)) (s₁.setTop (mkF m 2 #[.val (.ref x), .val (.ref y), .unset] [.ref y, .ref x])) := Steps.trans (entry rfl) (by
    show Steps p.tables e below (s₁.setTop (mkF m 0 #[.val (.ref x), .val (.ref y), .unset] [])) _
    refine XS.aloadN X0.here hexec rfl (hb hbytes d0) rfl rfl ?_
    refine XS.aloadN X0.here hexec rfl (hb hbytes d1) rfl rfl ?_
    exact Steps.refl _)
  by_cases hxy : x = y
  · have c2 : Steps p.tables e below (s₁.setTop (entryFrame m #[.ref x, .ref y] 3)) (s₁.setTop (mkF m 6 #[.val (.ref x), .val (.ref y), .unset] [.int 1])) := c1.trans (by
      refine acmpNo X0.here hexec rfl (hb hbytes d2) rfl rfl rfl (by simp [acmp, hxy]) ?_
      refine iconstV X0.here hexec rfl 1 (hb hbytes d5) (by decide) ?_
      exact Steps.refl _)
    subst hxy
    have ec : cd = cd' := by
      obtain ⟨D, fd, a1, a2, a3⟩ := hx.2.2.1
      obtain ⟨D', fd', b1, b2, b3⟩ := hy.2.2.1
      cases a1.symm.trans b1
      obtain ⟨q1, q2, q3, q4⟩ := a2.1
      obtain ⟨r1, r2, r3, r4⟩ := b2.1
      cases q4.symm.trans r4
      cases a3.symm.trans b3; rfl
    have et : t = t' := by
      obtain ⟨D, fd, a1, a2, a3⟩ := hx.2.1
      obtain ⟨D', fd', b1, b2, b3⟩ := hy.2.1
      cases a1.symm.trans b1
      obtain ⟨q1, q2, q3, q4⟩ := a2.1
      obtain ⟨r1, r2, r3, r4⟩ := b2.1
      cases q4.symm.trans r4
      cases a3.symm.trans b3; rfl
    subst ec et
    have ev : V = V' := by cases hx.2.2.2.1.1.symm.trans hy.2.2.2.1.1; rfl
    subst ev
    have hs : SameT n f k g := (Cod.eqv hx.2.2.2.2.1 hy.2.2.2.2.1 hx.2.2.2.2.2 hy.2.2.2.2.2).mp ⟨rfl, fun _ _ => rfl⟩
    exact ⟨s₁, some (.int 1), _, _, _, X0, rfl, rfl, rfl, (fun h => by cases h), ⟨1, rfl, hh0, Or.inl ⟨rfl, hs⟩⟩, fun fs hl => c2.trans (X0.ireturnOut hexec hret rfl (Or.inr (Or.inl rfl)) (hb hbytes d6) hl)⟩
  · have c2 : Steps p.tables e below (s₁.setTop (entryFrame m #[.ref x, .ref y] 3)) (s₁.setTop (mkF m 8 #[.val (.ref x), .val (.ref y), .unset] [.ref y])) := c1.trans (by
      refine acmpYes X0.here hexec rfl (pc0 := 2) rfl (hb hbytes d2) rfl rfl rfl (by simp [acmp, hxy]) (by decide) rfl ?_
      refine XS.aloadN X0.here hexec rfl (hb hbytes d7) rfl rfl ?_
      exact Steps.refl _)
    obtain ⟨T3, X3, q3, st3⟩ := cinst X0 hexec hown (wk W (.classLink "java/lang/String" 10 "java/lang/String")) (hy.mv X0.warmed.alike hh0).1 (g := (mkF m 8 #[.val (.ref x), .val (.ref y), .unset] [.ref y])) rfl (rest := []) rfl (hb hbytes d8)
    have hh3 := q3.trans hh0
    have c4 : Steps p.tables e below (s₁.setTop (entryFrame m #[.ref x, .ref y] 3)) (T3.setTop (mkF m 15 #[.val (.ref x), .val (.ref y), .unset] [.ref y])) := (c2.trans (st3 _ (Steps.refl _))).trans (by
      refine XS.ifNo X3.here hexec rfl (hb hbytes d11) rfl (i0_eq_f (by decide)) ?_
      refine XS.aloadN X3.here hexec rfl (hb hbytes d14) rfl rfl ?_
      exact Steps.refl _)
    obtain ⟨T5, X5, q5, st5⟩ := cself X3 hexec hown (wk W (.classLink "java/lang/String" 10 "java/lang/String")) (hy.mv X3.warmed.alike hh3).1 (g := (mkF m 15 #[.val (.ref x), .val (.ref y), .unset] [.ref y])) rfl (rest := []) rfl (hb hbytes d15)
    have hh5 := q5.trans hh3
    have c6 : Steps p.tables e below (s₁.setTop (entryFrame m #[.ref x, .ref y] 3)) (T5.setTop (mkF m 19 #[.val (.ref x), .val (.ref y), .val (.ref y)] [])) := (c4.trans (st5 _ (Steps.refl _))).trans (by
      refine XS.astoreN X5.here hexec rfl (hb hbytes d18) rfl rfl rfl ?_
      exact Steps.refl _)
    obtain ⟨T7, X7, q7, st7⟩ := X5.sget hexec hown (wk W (.fieldLink "java/lang/String" 38 "java/lang/String" "COMPACT_STRINGS" "Z")) s1 (fun _ _ h => by rw [hh5]; exact h) (g := (mkF m 19 #[.val (.ref x), .val (.ref y), .val (.ref y)] [])) rfl (hb hbytes d19)
    have hh7 := q7.trans hh5
    have c8 : Steps p.tables e below (s₁.setTop (entryFrame m #[.ref x, .ref y] 3)) (T7.setTop (mkF m 26 #[.val (.ref x), .val (.ref y), .val (.ref y)] [.ref x])) := (c6.trans (st7 _ (Steps.refl _))).trans (by
      refine XS.ifNo X7.here hexec rfl (hb hbytes d22) rfl (i0_eq_f hz) ?_
      refine XS.aloadN X7.here hexec rfl (hb hbytes d25) rfl rfl ?_
      exact Steps.refl _)
    obtain ⟨T9, X9, q9, st9⟩ := X7.hget hexec hown (wk W (.fieldLink "java/lang/String" 15 "java/lang/String" "coder" "B")) (hx.mv X7.warmed.alike hh7).2.2.1 (g := (mkF m 26 #[.val (.ref x), .val (.ref y), .val (.ref y)] [.ref x])) rfl (rest := []) rfl (hb hbytes d26)
    have hh9 := q9.trans hh7
    have c10 : Steps p.tables e below (s₁.setTop (entryFrame m #[.ref x, .ref y] 3)) (T9.setTop (mkF m 30 #[.val (.ref x), .val (.ref y), .val (.ref y)] [.ref y, .int cd])) := (c8.trans (st9 _ (Steps.refl _))).trans (by
      refine XS.aloadN X9.here hexec rfl (hb hbytes d29) rfl rfl ?_
      exact Steps.refl _)
    obtain ⟨T11, X11, q11, st11⟩ := X9.hget hexec hown (wk W (.fieldLink "java/lang/String" 15 "java/lang/String" "coder" "B")) (hy.mv X9.warmed.alike hh9).2.2.1 (g := (mkF m 30 #[.val (.ref x), .val (.ref y), .val (.ref y)] [.ref y, .int cd])) rfl (rest := [.int cd]) rfl (hb hbytes d30)
    have hh11 := q11.trans hh9
    have c12 : Steps p.tables e below (s₁.setTop (entryFrame m #[.ref x, .ref y] 3)) (T11.setTop (mkF m 33 #[.val (.ref x), .val (.ref y), .val (.ref y)] [.int cd', .int cd])) := c10.trans (st11 _ (Steps.refl _))
    by_cases hcd : cd = cd'
    · subst hcd
      have c13 : Steps p.tables e below (s₁.setTop (entryFrame m #[.ref x, .ref y] 3)) (T11.setTop (mkF m 37 #[.val (.ref x), .val (.ref y), .val (.ref y)] [.ref x])) := c12.trans (by
        refine XS.icmpNo X11.here hexec rfl (hb hbytes d33) rfl (ii_ne_f rfl) ?_
        refine XS.aloadN X11.here hexec rfl (hb hbytes d36) rfl rfl ?_
        exact Steps.refl _)
      obtain ⟨T14, X14, q14, st14⟩ := X11.hget hexec hown (wk W (.fieldLink "java/lang/String" 9 "java/lang/String" "value" "[B")) (hx.mv X11.warmed.alike hh11).2.1 (g := (mkF m 37 #[.val (.ref x), .val (.ref y), .val (.ref y)] [.ref x])) rfl (rest := []) rfl (hb hbytes d37)
      have hh14 := q14.trans hh11
      have c15 : Steps p.tables e below (s₁.setTop (entryFrame m #[.ref x, .ref y] 3)) (T14.setTop (mkF m 41 #[.val (.ref x), .val (.ref y), .val (.ref y)] [.ref y, .ref t])) := (c13.trans (st14 _ (Steps.refl _))).trans (by
        refine XS.aloadN X14.here hexec rfl (hb hbytes d40) rfl rfl ?_
        exact Steps.refl _)
      obtain ⟨T16, X16, q16, st16⟩ := X14.hget hexec hown (wk W (.fieldLink "java/lang/String" 9 "java/lang/String" "value" "[B")) (hy.mv X14.warmed.alike hh14).2.1 (g := (mkF m 41 #[.val (.ref x), .val (.ref y), .val (.ref y)] [.ref y, .ref t])) rfl (rest := [.ref t]) rfl (hb hbytes d41)
      have hh16 := q16.trans hh14
      have c17 : Steps p.tables e below (s₁.setTop (entryFrame m #[.ref x, .ref y] 3)) (T16.setTop (mkF m 44 #[.val (.ref x), .val (.ref y), .val (.ref y)] [.ref t', .ref t])) := c15.trans (st16 _ (Steps.refl _))
      obtain ⟨v18, T18, X18, E18, g18⟩ := X16.callS hexec (LEq.law l t V t' V') hown (wks W (staticW "java/lang/String" 541 LEq.yN)) (wk W LEq.tab) (W := 0) (Nat.le_of_ble_eq_true rfl) (Nat.le_of_ble_eq_true rfl) (Nat.le_refl _) (Nat.le_refl _) (g := (mkF m 44 #[.val (.ref x), .val (.ref y), .val (.ref y)] [.ref t', .ref t])) rfl (by rw [hml]; rfl) c17 (argsL := [.ref t, .ref t']) (rest := []) rfl rfl (by show 2 * 0 + 0 ≤ _; decide) (hb hbytes d44) (⟨rfl, hx.2.2.2.1.mv X16.warmed.alike hh16, hx.2.2.2.2.1.ty, hy.2.2.2.1.mv X16.warmed.alike hh16, hy.2.2.2.2.1.ty⟩)
      obtain ⟨v, rfl, q18, hv⟩ := E18
      have iff := Cod.eqv hx.2.2.2.2.1 hy.2.2.2.2.1 hx.2.2.2.2.2 hy.2.2.2.2.2
      rcases hv with ⟨rfl, he⟩ | ⟨rfl, he⟩
      · have c19 : Steps p.tables e below (s₁.setTop (entryFrame m #[.ref x, .ref y] 3)) (T18.setTop (mkF m 55 #[.val (.ref x), .val (.ref y), .val (.ref y)] [.int 1])) := Steps.trans g18 (by
          refine XS.ifNo X18.here hexec rfl (hb hbytes d47) rfl (i0_eq_f (by decide)) ?_
          refine iconstV X18.here hexec rfl 1 (hb hbytes d50) (by decide) ?_
          refine XS.goto X18.here hexec rfl (pc0 := 51) rfl (hb hbytes d51) (by decide) rfl ?_
          exact Steps.refl _)
        exact ⟨T18, some (.int 1), _, _, _, X18, rfl, rfl, rfl, (fun h => by cases h), ⟨1, rfl, q18.trans hh16, Or.inl ⟨rfl, iff.mp he⟩⟩, fun fs hl => c19.trans (X18.ireturnOut hexec hret rfl (Or.inr (Or.inl rfl)) (hb hbytes d55) hl)⟩
      · have c19 : Steps p.tables e below (s₁.setTop (entryFrame m #[.ref x, .ref y] 3)) (T18.setTop (mkF m 55 #[.val (.ref x), .val (.ref y), .val (.ref y)] [.int 0])) := Steps.trans g18 (by
          refine XS.ifYes X18.here hexec rfl (pc0 := 47) rfl (hb hbytes d47) rfl (i0_eq_t rfl) (by decide) rfl ?_
          refine iconstV X18.here hexec rfl 0 (hb hbytes d54) (by decide) ?_
          exact Steps.refl _)
        exact ⟨T18, some (.int 0), _, _, _, X18, rfl, rfl, rfl, (fun h => by cases h), ⟨0, rfl, q18.trans hh16, Or.inr ⟨rfl, fun q => he (iff.mpr q)⟩⟩, fun fs hl => c19.trans (X18.ireturnOut hexec hret rfl (Or.inr (Or.inl rfl)) (hb hbytes d55) hl)⟩
    · have c13 : Steps p.tables e below (s₁.setTop (entryFrame m #[.ref x, .ref y] 3)) (T11.setTop (mkF m 55 #[.val (.ref x), .val (.ref y), .val (.ref y)] [.int 0])) := c12.trans (by
        refine XS.icmpYes X11.here hexec rfl (pc0 := 33) rfl (hb hbytes d33) rfl (ii_ne_t hcd) (by decide) rfl ?_
        refine iconstV X11.here hexec rfl 0 (hb hbytes d54) (by decide) ?_
        exact Steps.refl _)
      exact ⟨T11, some (.int 0), _, _, _, X11, rfl, rfl, rfl, (fun h => by cases h), ⟨0, rfl, hh11, Or.inr ⟨rfl, Cod.dif hx.2.2.2.2.1 hy.2.2.2.2.1 hcd⟩⟩, fun fs hl => c13.trans (X11.ireturnOut hexec hret rfl (Or.inr (Or.inl rfl)) (hb hbytes d55) hl)⟩
theorem pays {l : Launch} {R : Room} {p : Program} {e : Env} {below : List Frame} {s : State} {sargs : Array Value} {len W : Nat} (x t : Addr) (V : Cell) (cd : Int32) (n : Nat) (f : Nat → Int32) (y t' : Addr) (V' : Cell) (cd' : Int32) (k : Nat) (g : Nat → Int32) (z : Int32) (htab : tab.before sargs s = true) (hfr : 2 ≤ R.frames) (hlo : W + 28 ≤ R.locals) :
    Back l R p e below s sargs yN len W (fun A₁ a₁ => A₁.cells + 0 ≤ R.cells ∧ A₁.slots + 0 ≤ R.slots ∧ P x t V cd n f y t' V' cd' k g z a₁ A₁.U) (fun A₁ _ v₁ B₁ => Says01 (SameT n f k g) v₁ A₁.U B₁.U ∧ B₁.locs = A₁.locs ++ [] ∧ B₁.cells = A₁.cells + 0 ∧ B₁.slots = A₁.slots + 0) :=
  (law l x t V cd n f y t' V' cd' k g z).pays htab hfr (by omega)
end SEq
end StrChars
namespace StrChars.Road
open Jvm Sem ClassFile Op Lib Jvm.Stand Jvm.Free Jvm.Free.XT
open Jvm.Lib.Cold (StaticIs)
/-- the words of String.equals(Object) -/
abbrev wordsEq : List Jvm.Cond := [.code SEq.yN SEq.yB 3 (some .boolean), .initialized ST, .classLink ST 10 ST, .fieldLink ST 38 ST "COMPACT_STRINGS" "Z", .fieldLink ST 15 ST "coder" "B", .fieldLink ST 9 ST "value" "[B", .methodLink ST 541 LEq.yN, .static LEq.yN, .code LEq.yN LEq.yB 3 (some .boolean), .initialized "java/lang/StringLatin1"]
theorem tabEq_of {a : Array Value} {s : State} (h : ∀ w ∈ wordsEq, w.before a s = true) : SEq.tab.before a s = true := by
  have hl : LEq.tab.before a s = true := unparts (wk h (.code LEq.yN LEq.yB 3 (some .boolean))) (wks h (.initialized LEq.yN.cls :: LEq.site))
  have q := consq hl h
  exact unparts (wk q (.code SEq.yN SEq.yB 3 (some .boolean))) (wks q (.initialized SEq.yN.cls :: SEq.site))
theorem movedEq {Z s : State} {a0 args : Array Value} (hZ : Z.Warmed39 s.vm) (hw : ∀ d ∈ wordsEq, d.before a0 Z = true) : ∀ d ∈ wordsEq, d.before args s = true := fun d hd => by
  have t : ∀ d ∈ wordsEq, (d.onTables && d.keepsFace) = true := by decide +kernel
  exact RoadKit.mv hZ (hw d hd) (t d hd)
/-- the road's facts of a String, as the laws ask it -/
theorem txt_of {Z U : State} {a0 : Array Value} {kI : Nat} (wi : (Jvm.Cond.instantiable ST kI).before a0 Z = true) (al : Z.vm.Alike U.vm) {x t : Addr} {kb : ClassId} {cs : List Int32} {cd N2 : Int32} {vs : List Value} (E : RoadKit.Exa Z U.heap x ST) (V : RoadKit.Fld Z U.heap x ST "value" "[B" (.ref t)) (C : RoadKit.Fld Z U.heap x ST "coder" "B" (.int cd)) (K : RoadKit.Arv Z U.heap t kb .byte N2 vs (.int 0)) (hc : CodA cs cd N2 vs) (hb : ∀ c ∈ cs, ¬ c < 0 ∧ ¬ (65535 : Int32) < c) (l2 : cs.length ≤ 4000) :
    ∃ A, Txt x t A cd cs.length (fun j => cs.getD j 0) U := by
  obtain ⟨A, K1, K2, K3, K4, K5, K6⟩ := K
  have hcod := hc.cod (by omega) K3 K5
  obtain ⟨D, fV, fC, hB, F1, F2, g1, g2, -, -⟩ := strObj wi al E V C
  exact ⟨A, ⟨_, hB.2.2.1, D, hB.1, rfl, by cases q : D.vm <;> first | rfl | exact absurd q (hB.2.1.2 _)⟩, Has.of hB F1 g1, Has.of hB F2 g2, ⟨K1.1, State.isArrayOf_alike al K1.2.1, K1.2.2, by rcases hcod with ⟨-, q, -⟩ | ⟨-, q, -⟩ <;> omega⟩, hcod, fun j hj => by
    have e : cs.getD j 0 = cs[j] := by simp [List.getD_eq_getElem?_getD, hj]
    show ¬ cs.getD j 0 < 0 ∧ ¬ 65535 < cs.getD j 0
    rw [e]; exact hb _ (List.getElem_mem _)⟩
theorem same_list (cs ds : List Int32) : SameT cs.length (fun j => cs.getD j 0) ds.length (fun j => ds.getD j 0) ↔ cs = ds := by
  constructor
  · rintro ⟨e, q⟩
    refine List.ext_getElem e fun j h1 h2 => ?_
    have := q j h1
    simpa [List.getD_eq_getElem?_getD, h1, h2] using this
  · rintro rfl
    exact ⟨rfl, fun _ _ => rfl⟩
/-- **equals(Object) OF TWO SUCH STRINGS**: 1 just where the chars are the same -/
theorem eqW {p : Program} {l : Launch} {e : Env} {R : Room} {s : State} {args : Array Value} {below : List Frame} {len W : Nat} {Z : State} {a0 : Array Value} {h : Heap} (hZ : Z.Warmed39 s.vm) (hw : ∀ d ∈ wordsEq, d.before a0 Z = true) {kI : Nat} (wi : (Jvm.Cond.instantiable ST kI).before a0 Z = true)
    {x t : Addr} {kb : ClassId} {cs : List Int32} {cd N2 : Int32} {vs : List Value} (E : RoadKit.Exa Z h x ST) (V : RoadKit.Fld Z h x ST "value" "[B" (.ref t)) (C : RoadKit.Fld Z h x ST "coder" "B" (.int cd)) (K : RoadKit.Arv Z h t kb .byte N2 vs (.int 0)) (hc : CodA cs cd N2 vs) (hb : ∀ c ∈ cs, ¬ c < 0 ∧ ¬ (65535 : Int32) < c) (l2 : cs.length ≤ 4000)
    {y t' : Addr} {kb' : ClassId} {ds : List Int32} {cd' N2' : Int32} {vs' : List Value} (E' : RoadKit.Exa Z h y ST) (V' : RoadKit.Fld Z h y ST "value" "[B" (.ref t')) (C' : RoadKit.Fld Z h y ST "coder" "B" (.int cd')) (K' : RoadKit.Arv Z h t' kb' .byte N2' vs' (.int 0)) (hc' : CodA ds cd' N2' vs') (hb' : ∀ c ∈ ds, ¬ c < 0 ∧ ¬ (65535 : Int32) < c) (l2' : ds.length ≤ 4000)
    {z : Int32} (S : RoadKit.Sta Z h ST "COMPACT_STRINGS" "Z" (.int z)) (hz : ¬ z = 0) (hfr : 2 ≤ R.frames) (hlo : W + 28 ≤ R.locals) :
    Back l R p e below s args (⟨"java/lang/String", "equals", "(Ljava/lang/Object;)Z"⟩ : MethodName) len W (fun P a => a = #[.ref x, .ref y] ∧ P.U.heap = h ∧ P.cells + 0 ≤ R.cells ∧ P.slots + 0 ≤ R.slots)
      (fun P _ v B => ∃ L, (((v = some (.int 1) ∧ cs = ds) ∨ (v = some (.int 0) ∧ ¬ cs = ds)) ∧ L = [] ∧ B.U.heap = h) ∧ B.locs = P.locs ++ L ∧ B.cells = P.cells + 0 ∧ B.slots = P.slots + 0) := by
  intro m meth c P g ig mk a X hg hsize hdg hW hn hp'
  obtain ⟨rfl, rfl, r1, r2⟩ := hp'
  have al : Z.vm.Alike P.U.vm := hZ.alike.trans X.warmed.alike
  obtain ⟨A, hx⟩ := txt_of wi al E V C K hc hb l2
  obtain ⟨A', hy⟩ := txt_of wi al E' V' C' K' hc' hb' l2'
  obtain ⟨v, B, X', ⟨⟨w, hv, hh, hq⟩, hl, hk, hs⟩, st⟩ := SEq.pays x t A cd cs.length (fun j => cs.getD j 0) y t' A' cd' ds.length (fun j => ds.getD j 0) z (tabEq_of (movedEq hZ hw)) hfr hlo m meth c P g ig mk _ X hg hsize hdg hW hn ⟨r1, r2, rfl, hx, hy, sta_is al S, hz⟩
  refine ⟨v, B, X', ⟨[], ⟨?_, rfl, hh⟩, hl, hk, hs⟩, st⟩
  rcases hq with ⟨rfl, q⟩ | ⟨rfl, q⟩
  · exact Or.inl ⟨hv, (same_list cs ds).mp q⟩
  · exact Or.inr ⟨hv, fun e => q ((same_list cs ds).mpr e)⟩
end StrChars.Road
namespace StrChars.Road
open Jvm Sem ClassFile Op Lib Jvm.Stand Jvm.Free Jvm.Free.XT
open Jvm.Lib.Cold (StaticIs)
/-- what backV says of its String, as the contracts of this text ask it: cs's low bytes, coder 0 -/
theorem codOf {cs : List Int32} {n : Nat} (hn : cs.length = n) (hb : ∀ c ∈ cs, ¬ 255 < c) : CodA cs 0 (Int32.ofNat n) ((cs.map lo8).map Value.int) := Or.inl ⟨rfl, by rw [hn], by simp [List.map_map, Function.comp_def], hb⟩
end StrChars.Road
end Jvm.Pilot.@@N@@

namespace Jvm.Pilot.@@N@@
open Jvm Jvm.ClassFile Sem Op Lib Jvm.Free Jvm.Stand Jvm.LawKit Jvm.RoadKit Bundle Jvm.Pilot.@@N@@.Jvm.D
def own_Go (p : Program) (e : Env) (below : List Frame) (Qf : Outcome → State → Prop) (A : State) : Prop := ∃ s₂ o, Steps p.tables e below A s₂ ∧ s₂.status = .running ∧ Ended s₂ below o ∧ Qf o s₂
theorem own_go {p : Program} {e : Env} {below : List Frame} {Qf : Outcome → State → Prop} {A B : State} (st : ∀ t, Steps p.tables e below B t → Steps p.tables e below A t) (h : own_Go p e below Qf B) : own_Go p e below Qf A := by
  obtain ⟨t, o, h1, h2⟩ := h
  exact ⟨t, o, st t h1, h2⟩
theorem own_fits {v : Value} {t : FieldType} (h : v.isRef = true) (ht : t.isReference = true) : fits t v = true := by
  cases t <;> first | (cases ht; done) | (cases v <;> simp_all [fits, Value.isRef])
theorem own_eqr {Z : State} {args : Array Value} {X F : Term} {idx : List Nat} {y : Addr} (hF : F.eval args Z none idx Z = some (.ref y)) (h : (Jvm.Cond.eq X F).value args Z none Z idx = some true) : X.eval args Z none idx Z = some (.ref y) := by
  obtain ⟨x, y', e1, e2, k1, k2⟩ := cmp_v (Or.inl h)
  cases hF.symm.trans e2
  have hx : x.isRef = true := k2.2
  exact e1.trans (congrArg some (gotT (eq_R e1 hF hx rfl) h))
theorem own_len {Z : State} {args : Array Value} {t : Term} {a : Addr} {c : Cell} {ty : FieldType} {n : Int32} (ev : t.eval args Z none [] Z = some (.ref a)) (A : Arr Z Z.heap a c ty) (h : (Jvm.Cond.eq (Term.length t) (Term.int n)).value args Z none Z [] = some true) : c.slots.size < 2 ^ 31 ∧ c.slots.size.toInt32 = n := by
  have l := eqv_i (y := n) rfl h
  have q := Jvm.Free.SBG.length_lt ev (A.fin (Vm.Alike.refl _)) l
  have e := len_f ev (A.fin (Vm.Alike.refl _)) q
  rw [e] at l
  exact ⟨q, Value.int.inj (Option.some.inj l)⟩
theorem own_el {Z : State} {args : Array Value} {t : Term} {a : Addr} {c : Cell} {ty : FieldType} {j : Int32} {v : Value} (ev : t.eval args Z none [] Z = some (.ref a)) (A : Arr Z Z.heap a c ty) (h : (Term.elem t (Term.int j)).eval args Z none [] Z = some v) : c.slots[j.toNatClampNeg]? = some v := (elem_in h ev rfl A.1).2
def own_Str (Z : State) (h : Heap) (x : Addr) (cs : List Int32) : Prop := ∃ (t : Addr) (kb : ClassId) (N : Int32) (vs : List Value), Exa Z h x "java/lang/String" ∧ Fld Z h x "java/lang/String" "value" "[B" (.ref t) ∧ Fld Z h x "java/lang/String" "coder" "B" (.int 0) ∧ Arv Z h t kb .byte N vs (.int 0) ∧ StrChars.Road.CodA cs 0 N vs ∧ (∀ c ∈ cs, ¬ c < 0 ∧ ¬ (255 : Int32) < c) ∧ cs.length ≤ 4000
theorem own_Str_ext {Z : State} {h h' : Heap} {x : Addr} {cs : List Int32} (E : Ext h h') (F : own_Str Z h x cs) : own_Str Z h' x cs := by
  obtain ⟨t, kb, N, vs, a1, a2, a3, a4, r⟩ := F
  exact ⟨t, kb, N, vs, a1.ext E, a2.ext E, a3.ext E, a4.ext E, r⟩
theorem own_Str_exa {Z : State} {h : Heap} {x : Addr} {cs : List Int32} (F : own_Str Z h x cs) : Exa Z h x "java/lang/String" := by
  obtain ⟨t, kb, N, vs, a1, -⟩ := F; exact a1
def own_Oth (Z : State) (h : Heap) (w : Addr) : Prop := ∃ (C : String) (n : Nat) (a0 : Array Value), Exa Z h w C ∧ C ≠ "java/lang/String" ∧ (Jvm.Cond.instantiable C n).before a0 Z = true
theorem own_Str_keep {Z : State} {h h' : Heap} {x : Addr} {cs : List Int32} {ws : List Addr} (K : Keep h h' ws) (W : ∀ w ∈ ws, own_Oth Z h w) (F : own_Str Z h x cs) : own_Str Z h' x cs := by
  obtain ⟨t, kb, N, vs, a1, a2, a3, a4, r⟩ := F
  have n1 : x ∉ ws := fun q => by
    obtain ⟨C, n, a0, e1, e2, e3⟩ := W x q
    exact (Exa.ne e1 a1 e2) rfl
  have n2 : t ∉ ws := fun q => by
    obtain ⟨C, n, a0, e1, e2, e3⟩ := W t q
    exact (Exa.neArv e1 a4 e3) rfl
  exact ⟨t, kb, N, vs, a1.keep K, a2.keep K n1, a3.keep K n1, a4.keep K n2, r⟩
/-- as own_Str_keep, where the places that were written are new Strings made since, or others, each unlike the String and its bytes -/
theorem own_Str_keepN {Z : State} {h h' : Heap} {x : Addr} {cs : List Int32} {ws : List Addr} {k : Nat} (K : Keep h h' ws) (F : own_Str Z h x cs) (N : ∀ w ∈ ws, h.size ≤ w) : own_Str Z h' x cs := by
  obtain ⟨t, kb, N', vs, a1, a2, a3, a4, r⟩ := F
  have n1 : x ∉ ws := fun q => absurd a1.lt (Nat.not_lt.mpr (N x q))
  have n2 : t ∉ ws := fun q => absurd a4.lt (Nat.not_lt.mpr (N t q))
  exact ⟨t, kb, N', vs, a1.keep K, a2.keep K n1, a3.keep K n1, a4.keep K n2, r⟩
def own_eqs (cs ds : List Int32) : Int32 := if cs = ds then 1 else 0
theorem own_wide {cs : List Int32} (h : ∀ c ∈ cs, ¬ c < 0 ∧ ¬ (255 : Int32) < c) : ∀ c ∈ cs, ¬ c < 0 ∧ ¬ (65535 : Int32) < c := fun c q => ⟨(h c q).1, fun z => (h c q).2 (by
  rw [Int32.lt_iff_toInt_lt] at z ⊢
  have o1 : (65535 : Int32).toInt = 65535 := by decide
  have o2 : (255 : Int32).toInt = 255 := by decide
  omega)⟩
theorem own_nar {c : Int32} (h : ¬ c < 0 ∧ ¬ (255 : Int32) < c) : nar .char c = c := by
  have q := c_i2c c
  have e : nar .char c = c.toUInt32.toUInt16.toUInt32.toInt32 := rfl
  rw [e]
  simp only [Int32.lt_iff_toInt_lt] at h
  have o0 : (0 : Int32).toInt = 0 := by decide
  have o2 : (255 : Int32).toInt = 255 := by decide
  exact Int32.toInt_inj.mp (by omega)
theorem own_i2c (x : Int32) : (x &&& (255 : Int32)).toUInt32.toUInt16.toUInt32.toInt32 = x &&& (255 : Int32) := i2c_mask x
theorem own_m255 (x : Int32) : ¬ (x &&& (255 : Int32)) < 0 ∧ ¬ (255 : Int32) < (x &&& (255 : Int32)) := by
  have a := c_mask x 255 8 (by decide) (by decide)
  have o0 : (0 : Int32).toInt = 0 := by decide
  have o2 : (255 : Int32).toInt = 255 := by decide
  simp only [Int32.lt_iff_toInt_lt]
  omega
theorem own_eqW {p : Program} {l : Launch} {e : Env} {R : Room} {s : State} {args : Array Value} {below : List Frame} {len W : Nat} {Z : State} {a0 : Array Value} {h : Heap} (hZ : Z.Warmed39 s.vm) (hw : ∀ d ∈ tables_1, d.before a0 Z = true) {x y : Addr} {cs ds : List Int32} (n0 : Nat)
    (F : own_Str Z h x cs) (F' : own_Str Z h y ds) {z : Int32} (S : Sta Z h "java/lang/String" "COMPACT_STRINGS" "Z" (.int z)) (hz : ¬ z = 0) (hfr : 2 ≤ R.frames) (hlo : W + 28 ≤ R.locals) :
    Back l R p e below s args (⟨"java/lang/String", "equals", "(Ljava/lang/Object;)Z"⟩ : MethodName) len W (fun P a => a = #[.ref x, .ref y] ∧ P.U.heap = h ∧ P.cells + 0 ≤ R.cells ∧ P.slots + 0 ≤ R.slots)
      (fun P _ v B => ∃ L, (v = some (.int (own_eqs cs ds)) ∧ Fr n0 L ∧ B.U.heap = h) ∧ B.locs = P.locs ++ L ∧ B.cells = P.cells + 0 ∧ B.slots = P.slots + 0) := by
  obtain ⟨t, kb, N, vs, a1, a2, a3, a4, a5, a6, a7⟩ := F
  obtain ⟨t', kb', N', vs', b1, b2, b3, b4, b5, b6, b7⟩ := F'
  refine Back.mono (StrChars.Road.eqW hZ (fun d hd => hw d ((by decide +kernel : ∀ d ∈ StrChars.Road.wordsEq, d ∈ tables_1) d hd)) (kI := 4) (hw _ (List.mem_of_getElem? (i := 5) rfl)) a1 a2 a3 a4 a5 (own_wide a6) a7 b1 b2 b3 b4 b5 (own_wide b6) b7 S hz hfr hlo) (fun _ _ q => q) (fun P a v B _ q => ?_)
  obtain ⟨L, ⟨q1, rfl, q3⟩, r⟩ := q
  refine ⟨[], ⟨?_, Fr.nil n0, q3⟩, r⟩
  rcases q1 with ⟨rfl, e⟩ | ⟨rfl, e⟩ <;> simp [own_eqs, e]
theorem own_newS {p : Program} {l : Launch} {e : Env} {R : Room} {s : State} {args : Array Value} {below : List Frame} {len W : Nat} {Z : State} {a0 : Array Value} {h : Heap} (hZ : Z.Warmed39 s.vm) (hw : ∀ d ∈ tables_1, d.before a0 Z = true) {x b : Addr} {kC : ClassId} {cs : List Int32} {vs : List Value} {d v0 c0 : Value} {N : Int32} (n n0 : Nat) (hx0 : n0 ≤ x) (hh0 : n0 ≤ h.size)
    (E : Exa Z h x "java/lang/String") (V : Fld Z h x "java/lang/String" "value" "[B" v0) (C : Fld Z h x "java/lang/String" "coder" "B" c0) (K : Arv Z h b kC .char N vs d) (hv : vs = cs.map Value.int) {z : Int32} (S : Sta Z h "java/lang/String" "COMPACT_STRINGS" "Z" (.int z)) (hz : ¬ z = 0)
    (hn : cs.length = n) (hN : N = Int32.ofNat n) (l0 : 0 < n) (l2 : n ≤ 4000) (hp : ∀ c ∈ cs, ¬ c < 0 ∧ ¬ (255 : Int32) < c) (hfr : 4 ≤ R.frames) (hlo : W + 65 ≤ R.locals) :
    Back l R p e below s args (⟨"java/lang/String", "<init>", "([C)V"⟩ : MethodName) len W (fun P a => a = #[.ref x, .ref b] ∧ P.U.heap = h ∧ P.cells + 1 ≤ R.cells ∧ P.slots + n ≤ R.slots)
      (fun P _ v B => ∃ L, (v = none ∧ Fr n0 L ∧ Keep h B.U.heap [x] ∧ own_Str Z B.U.heap x cs) ∧ B.locs = P.locs ++ L ∧ B.cells = P.cells + 1 ∧ B.slots = P.slots + n) := by
  subst hv
  refine Back.mono (StrChars.Road.backV hZ (fun d hd => hw d ((by decide +kernel : ∀ d ∈ StrChars.Road.words, d ∈ tables_1) d hd)) (kI := 4) (hw _ (List.mem_of_getElem? (i := 5) rfl)) (cs := cs) (bs := cs.map (fun c => c.toInt8.toInt32)) hx0 hh0 E V C K S hz hn hN l0 l2 hp rfl hfr hlo) (fun _ _ q => q) (fun P a v B _ q => ?_)
  obtain ⟨L, ⟨q1, q2, q3, q4, q5, t, kb, -, -, -, q6, q7⟩, r⟩ := q
  exact ⟨L, ⟨q1, q2, q3, t, kb, N, _, q4, q6, q5, q7, by rw [hN]; exact StrChars.Road.codOf hn (fun c hc => (hp c hc).2), hp, by omega⟩, r⟩
def own_EL : List (String × Nat) := consts_1
theorem own_EW {Z : State} {a0 : Array Value} (hw : ∀ d ∈ tables_1, d.before a0 Z = true) : EW Z a0 own_EL := (EW.cons (hw _ (List.mem_of_getElem? (i := 34) rfl)) (by decide) EW.nil)
theorem own_wS {Z : State} {a0 : Array Value} (hw : ∀ d ∈ tables_1, d.before a0 Z = true) : ∀ a ∈ Bundle.stringAtoms, a.before a0 Z = true := fun d hd => hw d ((by decide +kernel : ∀ d ∈ Bundle.stringAtoms, d ∈ tables_1) d hd)
theorem own_arvty {Z : State} {h : Heap} {a b : Addr} {k k' : ClassId} {ty ty' : FieldType} {z z' : Int32} {vs vs' : List Value} {d d' : Value} (A : Arv Z h a k ty z vs d) (B : Arv Z h b k' ty' z' vs' d') (hn : ty ≠ ty') : a ≠ b := fun e => by
  subst e
  obtain ⟨c1, ⟨h1, ⟨-, k1, i1, comp, j1⟩, -⟩, -⟩ := A
  obtain ⟨c2, ⟨g1, ⟨-, k2, i2, comp', j2⟩, -⟩, -⟩ := B
  cases h1.symm.trans g1
  cases i1.symm.trans i2
  rw [j1] at j2
  cases j2
  exact hn rfl
theorem own_backSH {p : Program} {l : Launch} {e : Env} {R : Room} {s : State} {args : Array Value} {below : List Frame} {Z : State} {a0 : Array Value} {EL : List (String × Nat)} {h : Heap} {vm0 : Vm} {y : MethodName} {bytes : ByteArray} {maxL : Nat} {ret : Option FieldType} {rm : Room} {len W : Nat} {as' : Array Value} {Q : Option Value → Heap → List Loc → Prop} {SL : List Addr}
    (hM : MetFree l y (head1 [Jvm.Cond.code y bytes maxL ret] rm) (fun a U => a = as' ∧ Z.Warmed39 U.vm ∧ U.heap = h ∧ CHv Z EL U.vm h ∧ ∀ x ∈ SL, Safe Z EL U.vm h x) (fun _ _ _ _ _ => True) (fun _ U o U' => ∃ v L, o = .returned v ∧ Q v U'.heap L ∧ CHr Z EL U.vm U.heap U'.vm U'.heap ∧ ReturnedEndW U o U' L rm.cells rm.slots))
    (hZ : Z.Warmed39 vm0) (wc : (Jvm.Cond.code y bytes maxL ret).before a0 Z = true) (wz : (Jvm.Cond.initialized y.cls).before a0 Z = true) (hf : rm.frames + 1 ≤ R.frames) (hl : W + (maxL + 11) + rm.locals ≤ R.locals) (hEL : EW Z a0 EL) (H : CHv Z EL vm0 h) (hSL : ∀ x ∈ SL, Safe Z EL vm0 h x ∧ x < h.size) :
    BackS l R p e below (s.setVm vm0) args y len W (fun A a => a = as' ∧ A.U.heap = h ∧ A.cells + rm.cells ≤ R.cells ∧ A.slots + rm.slots ≤ R.slots)
      (fun A _ v B => ∃ L, Q v B.U.heap L ∧ B.locs = A.locs ++ L ∧ B.cells = A.cells + rm.cells ∧ B.slots = A.slots + rm.slots ∧ CHr Z EL vm0 h B.U.vm B.U.heap) :=
  BackS.of_freeW (bytes := bytes) (maxL := maxL) (ret := ret) (E := fun _ first o t L k n => k = rm.cells ∧ n = rm.slots ∧ (∃ v, o = .returned v ∧ Q v t.heap L) ∧ CHr Z EL first.vm first.heap t.vm t.heap) hM hf hl
    (fun m meth c A a Y hp => have hU : Z.Warmed39 A.U.vm := wtrans (s := s.setVm vm0) hZ Y.warmed
      ⟨by show (Cond.and _ .tt).before a A.U = true; rw [Cond.before_and, mv hU wc]; rfl, mv hU wc, mv hU wz, hp.2.2.1, hp.2.2.2⟩)
    (fun m meth c A a g mk Y hp => ⟨hp.1, wtrans (s := s.setVm vm0) hZ Y.warmed, hp.2.1, (CHv.at Y hZ hEL H).1, fun x q => CHr.safe (CHv.at Y hZ hEL H) (hSL x q).2 (hSL x q).1⟩) (fun _ _ _ _ _ _ _ _ _ => trivial)
    (fun _ _ _ _ ⟨v, L, h1, h2, h3, h4⟩ => ⟨L, _, _, h4, rfl, rfl, ⟨v, h1, h2⟩, h3⟩)
    (fun m meth c A a g mk v t L k n Y hp _ _ ⟨e1, e2, ⟨v', e3, e4⟩, e5⟩ => by
      cases e3; subst e1 e2
      refine ⟨L, e4, rfl, rfl, rfl, (CHv.at Y hZ hEL H).trans ?_⟩
      rw [← hp.2.1]; exact e5)
def own_mk (n a b c : Int32) : List Int32 := if n = 0 then [] else if n = 1 then [a] else if n = 2 then [a, b] else [a, b, c]
def own_r4 (n : Int32) : Prop := n = 0 ∨ n = 1 ∨ n = 2 ∨ n = 3
theorem own_r4m (x : Int32) : own_r4 (x &&& (3 : Int32)) := by
  have a := c_mask x 3 2 (by decide) (by decide)
  generalize x &&& (3 : Int32) = y at *
  have o0 : (0 : Int32).toInt = 0 := by decide
  have o1 : (1 : Int32).toInt = 1 := by decide
  have o2 : (2 : Int32).toInt = 2 := by decide
  have o3 : (3 : Int32).toInt = 3 := by decide
  simp only [own_r4, ← Int32.toInt_inj, o0, o1, o2, o3]
  omega
def own_rg (c : Int32) : Prop := ¬ c < 0 ∧ ¬ (255 : Int32) < c
theorem own_rg0 : own_rg 0 := by unfold own_rg; decide
theorem own_xor (a b : Int32) (ha : own_rg a) (hb : own_rg b) : own_rg ((a ^^^ b).toUInt32.toUInt16.toUInt32.toInt32) := by
  obtain ⟨x, hx⟩ : ∃ x : Int32, a ^^^ b = x &&& (255 : Int32) := ⟨a ^^^ b, by
    have e1 : a &&& (255 : Int32) = a := by
      have q := c_mask a 255 8 (by decide) (by decide)
      obtain ⟨h1, h2⟩ := ha
      simp only [Int32.lt_iff_toInt_lt] at h1 h2
      have o0 : (0 : Int32).toInt = 0 := by decide
      have o2 : (255 : Int32).toInt = 255 := by decide
      exact Int32.toInt_inj.mp (by omega)
    have e2 : b &&& (255 : Int32) = b := by
      have q := c_mask b 255 8 (by decide) (by decide)
      obtain ⟨h1, h2⟩ := hb
      simp only [Int32.lt_iff_toInt_lt] at h1 h2
      have o0 : (0 : Int32).toInt = 0 := by decide
      have o2 : (255 : Int32).toInt = 255 := by decide
      exact Int32.toInt_inj.mp (by omega)
    conv => lhs; rw [← e1, ← e2]
    apply Int32.toBitVec_inj.mp
    simp only [Int32.toBitVec_xor, Int32.toBitVec_and]
    ext i hi
    simp only [BitVec.getElem_xor, BitVec.getElem_and]
    cases a.toBitVec[i] <;> cases b.toBitVec[i] <;> cases (255 : Int32).toBitVec[i] <;> rfl⟩
  rw [hx, own_i2c]
  exact own_m255 x
theorem own_exp {l1 l2 a b c d e f : Int32} (h1 : own_r4 l1) (h2 : own_r4 l2) : own_eqs (own_mk l1 a b c) (own_mk l2 d e f) = if l1 = l2 ∧ (l1 < 1 ∨ a = d) ∧ (l1 < 2 ∨ b = e) ∧ (l1 < 3 ∨ c = f) then 1 else 0 := by
  rcases h1 with rfl | rfl | rfl | rfl <;> rcases h2 with rfl | rfl | rfl | rfl <;> simp [own_mk, own_eqs]
theorem own_eqs_comm (x y : List Int32) : own_eqs x y = own_eqs y x := by
  unfold own_eqs
  by_cases h : x = y
  · simp [h]
  · have h2 : ¬ y = x := fun q => h q.symm
    simp [h, h2]
theorem own_eqs_01 (x y : List Int32) : own_eqs x y = 0 ∨ own_eqs x y = 1 := by
  unfold own_eqs
  by_cases h : x = y <;> simp [h]
theorem own_nb (x y : List Int32) : nar .boolean (own_eqs x y) = own_eqs x y := by
  rcases own_eqs_01 x y with e | e <;> rw [e] <;> decide
theorem own_nsroot {Z : State} {a0 : Array Value} {O K : String} {n : Nat} (w : (Jvm.Cond.noSuperclass O).before a0 Z = true) (wk : (Jvm.Cond.instantiable K n).before a0 Z = true) (hn : O ≠ K) : NS Z O K := by
  obtain ⟨c, k, h1, h2, h3, -, -⟩ := Cond.noSuperclass_spec w
  obtain ⟨t, kt, g1, -⟩ := Cond.instantiable_spec wk
  have ne := ids_ne h1 g1 hn
  refine ⟨c, t, h1, g1, fun fuel => ?_⟩
  cases fuel with
  | zero => rfl
  | succ f => simp [Vm.isSubclassAux, ne, h2, h3]
theorem own_nsno {Z : State} {a0 : Array Value} {C S K : String} {n : Nat} (w : (Jvm.Cond.superclass C S).before a0 Z = true) (wk : (Jvm.Cond.instantiable K n).before a0 Z = true) (N : NS Z C K) (hn : C ≠ K) : ∃ c t, Z.vm.findClass C = some c ∧ Z.vm.findClass K = some t ∧ Z.vm.assignable c t = false := by
  obtain ⟨c, t, h0, g0, n3⟩ := N
  obtain ⟨p, k, kp, h1, h2, h3, h4, h5, -, h7⟩ := Cond.superclass_spec h0 w
  obtain ⟨t', k', g1, g2, g3, g4, -⟩ := Cond.instantiable_spec wk
  cases g0.symm.trans g1
  have ne := ids_ne h0 g0 hn
  simp only [Bool.or_eq_false_iff] at g4
  refine ⟨c, t, h0, g0, ?_⟩
  show Z.vm.assignableAux (255 + 1) c t = false
  simp [Vm.assignableAux, ne, h2, g2, h5, g3, g4.1, Vm.isSubclass, n3]
def own_G (Z : State) (zC : Int32) (fm : Value) : Prop := Sta Z Z.heap "java/lang/String" "COMPACT_STRINGS" "Z" (.int zC) ∧ ¬ zC = 0 ∧ Sta Z Z.heap "jdk/internal/util/Preconditions" "SIOOBE_FORMATTER" "Ljava/util/function/BiFunction;" fm ∧ fm.isRef = true ∧ True
theorem d3_0 : decode jdk_42_method_149_code 0 = .ok (.aload_n 0, 1) := by decide +kernel
theorem d3_1 : decode jdk_42_method_149_code 1 = .ok (.invokespecial 1, 3) := by decide +kernel
theorem d3_4 : decode jdk_42_method_149_code 4 = .ok (.iload_n 3, 1) := by decide +kernel
theorem d3_5 : decode jdk_42_method_149_code 5 = .ok (.ifCond .ne 22, 3) := by decide +kernel
theorem d3_8 : decode jdk_42_method_149_code 8 = .ok (.aload_n 0, 1) := by decide +kernel
theorem d3_9 : decode jdk_42_method_149_code 9 = .ok (.ldc 7, 2) := by decide +kernel
theorem d3_11 : decode jdk_42_method_149_code 11 = .ok (.getfield 9, 3) := by decide +kernel
theorem d3_14 : decode jdk_42_method_149_code 14 = .ok (.putfield 9, 3) := by decide +kernel
theorem d3_17 : decode jdk_42_method_149_code 17 = .ok (.aload_n 0, 1) := by decide +kernel
theorem d3_18 : decode jdk_42_method_149_code 18 = .ok (.ldc 7, 2) := by decide +kernel
theorem d3_20 : decode jdk_42_method_149_code 20 = .ok (.getfield 15, 3) := by decide +kernel
theorem d3_23 : decode jdk_42_method_149_code 23 = .ok (.putfield 15, 3) := by decide +kernel
theorem d3_26 : decode jdk_42_method_149_code 26 = .ok (.return_, 1) := by decide +kernel
theorem pn_3 : plainName "java/lang/String" = true := by first | (simp [plainName, overriddenIn]; done) | decide +kernel
theorem ef_rmS4 (m : MethodId) (a1 : Addr) (a2 : Addr) : entryFrame m #[(.ref a1), (.ref a2), (.int (0 : Int32)), (.int (0 : Int32)), .null] 6 = mkF m 0 #[.val (.ref a1), .val (.ref a2), .val (.int (0 : Int32)), .val (.int (0 : Int32)), .val .null, .unset] [] := by first | (simp [entryFrame, mkF, argsToLocals, Value.category]; done) | rfl
def Q_rmS4 (Z : State) (zC : Int32) (fm : Value) (a1 : Addr) (a2 : Addr) (u0 : Value) (h0 : Heap) (n0 : Nat) (v : Option Value) (h : Heap) (L : List Loc) : Prop := v = none ∧ Fr n0 L ∧ Keep h0 h [a1] ∧ own_Str Z h a1 []
set_option maxRecDepth 65536 in
set_option maxHeartbeats 40000000 in
theorem rmS4 (l : Launch) (Z : State) (a0 : Array Value) (hw : ∀ d ∈ tables_1, d.before a0 Z = true) (ws : List Jvm.Cond) (zC : Int32) (fm : Value) (G : own_G Z zC fm) (a1 : Addr) (a2 : Addr) (u0 : Value) (h0 : Heap) (n0 : Nat) (Z0 : n0 ≤ h0.size) (O0 : Old Z n0 h0) (E1 : Exa Z h0 a1 "java/lang/String") (Fv : Fld Z h0 a1 "java/lang/String" "value" "[B" u0) (Fc : Fld Z h0 a1 "java/lang/String" "coder" "B" (.int (0 : Int32))) (g1 : n0 ≤ a1) :
    MetFree l (⟨"java/lang/String", "<init>", "([CIILjava/lang/Void;)V"⟩ : MethodName) (head1 (Jvm.Cond.code (⟨"java/lang/String", "<init>", "([CIILjava/lang/Void;)V"⟩ : MethodName) jdk_42_method_149_code 6 none :: ws) ({ frames := 1, cells := 4, slots := 8, locals := 12 } : Room)) (fun a U => a = #[(.ref a1), (.ref a2), (.int (0 : Int32)), (.int (0 : Int32)), .null] ∧ Z.Warmed39 U.vm ∧ U.heap = h0 ∧ CHv Z own_EL U.vm h0 ∧ ∀ x ∈ ([a1] : List Addr), Safe Z own_EL U.vm h0 x) (fun _ _ _ _ _ => True) (fun _ U o U' => ∃ v L, o = .returned v ∧ Q_rmS4 Z zC fm a1 a2 u0 h0 n0 v U'.heap L ∧ CHr Z own_EL U.vm U.heap U'.vm U'.heap ∧ ReturnedEndW U o U' L ({ frames := 1, cells := 4, slots := 8, locals := 12 } : Room).cells ({ frames := 1, cells := 4, slots := 8, locals := 12 } : Room).slots) := by
  refine MetFree.of_bodySF (plainFor_of_name pn_3) hisR ?_
  intro p e s m args below meth c s₁ Bd hml0 hP hK
  obtain ⟨rfl, hZ, hh, CH0, SL0⟩ := hP
  have hx := Bd.exec
  have hby := Bd.bytes
  have hml : c.maxLocals = 6 := hml0
  have hown : s.vm.findClass "java/lang/String" = some m.cls := findClass_of_methodNamed Bd.named
  have hnm := (name_of_methodNamed Bd.named Bd.method).1
  have X0 : Stand p l e ({ frames := 1, cells := 4, slots := 8, locals := 12 } : Room) s m #[(.ref a1), (.ref a2), (.int (0 : Int32)), (.int (0 : Int32)), .null] below meth c s₁ [] 0 0 := Stand.of_body Bd
  have e0 : s₁.heap = h0 := by rw [← hh, Bd.state]; rfl
  have N0 := Fr.nil n0
  have K0 := Keep.refl h0 ([a1] : List Addr)
  have S0 : s.Since s.vm 0 := (State.WarmedH.refl s).since 0
  have CR0 := CHr.refl CH0
  have hEL := own_EW hw
  have wS := own_wS hw
  have G_ := G
  obtain ⟨S_String_COMPACT_STRINGS, hzC, S_Preconditions_SIOOBE_FORMATTER, hfm, G_end⟩ := G_
  change own_Go p e below _ _
  refine own_go (B := s₁.setTop (mkF m 0 #[.val (.ref a1), .val (.ref a2), .val (.int (0 : Int32)), .val (.int (0 : Int32)), .val .null, .unset] [])) (fun _ k => castTop (ef_rmS4 m a1 a2) k) ?_
  refine own_go (B := s₁.setTop (mkF m 1 #[.val (.ref a1), .val (.ref a2), .val (.int (0 : Int32)), .val (.int (0 : Int32)), .val .null, .unset] [(.ref a1)])) (fun _ k => XS.aloadN X0.here hx rfl (hb hby d3_0) rfl rfl k) ?_
  obtain ⟨T101, X101, e101, st101⟩ := initO X0 hx hZ hown (hw _ (List.mem_of_getElem? (i := 15) rfl)) (hw _ (List.mem_of_getElem? (i := 16) rfl)) (hw _ (List.mem_of_getElem? (i := 17) rfl)) e0 (g := (mkF m 1 #[.val (.ref a1), .val (.ref a2), .val (.int (0 : Int32)), .val (.int (0 : Int32)), .val .null, .unset] [(.ref a1)])) rfl (by rw [hml]; rfl) rfl (hb hby d3_1) (by decide) (W := 0) (by show 2 * 0 + _ ≤ _; exact Nat.le_of_eq rfl) (by decide)
  refine own_go (B := T101.setTop (mkF m 4 #[.val (.ref a1), .val (.ref a2), .val (.int (0 : Int32)), .val (.int (0 : Int32)), .val .null, .unset] [])) (st101) ?_
  refine own_go (B := T101.setTop (mkF m 5 #[.val (.ref a1), .val (.ref a2), .val (.int (0 : Int32)), .val (.int (0 : Int32)), .val .null, .unset] [(.int (0 : Int32))])) (fun _ k => XS.iloadN X101.here hx rfl (hb hby d3_4) rfl k) ?_
  refine own_go (B := T101.setTop (mkF m 8 #[.val (.ref a1), .val (.ref a2), .val (.int (0 : Int32)), .val (.int (0 : Int32)), .val .null, .unset] [])) (fun _ k => XS.ifNo X101.here hx rfl (hb hby d3_5) rfl ((if0 _ _).trans (teq (by decide : (0 : Int32) = (0 : Int32))).2) k) ?_
  refine own_go (B := T101.setTop (mkF m 9 #[.val (.ref a1), .val (.ref a2), .val (.int (0 : Int32)), .val (.int (0 : Int32)), .val .null, .unset] [(.ref a1)])) (fun _ k => XS.aloadN X101.here hx rfl (hb hby d3_8) rfl rfl k) ?_
  obtain ⟨la102, T102, h102, k102, tb102, kb102, X102, e102, E102, SN102, hk102, hZ, hown, Ex102, Fc102, Fv102, Vb102, -, -, CRq102, -, Ne102, st102⟩ := ldcCH (s := s) (vm0 := s.vm) X101 hx hZ hown (hw _ (List.mem_of_getElem? (i := 34) rfl)) wS e101 S0 (Nat.zero_le _) hEL (by decide) CH0 (vs := []) (z := (0 : Int32)) ⟨by decide, rfl⟩ (by decide) rfl (g := (mkF m 9 #[.val (.ref a1), .val (.ref a2), .val (.int (0 : Int32)), .val (.int (0 : Int32)), .val .null, .unset] [(.ref a1)])) rfl (hb hby d3_9) (n := 0) (by decide) (by decide) (by decide) (by decide)
  have O102 := O0.ext E102
  have K102' : Keep h0 h102 ([a1] : List Addr) := K0.ext E102
  have CH102 := CRq102.1
  have CR102 := CR0.trans CRq102
  have nl102_a1 := Ne102 a1 (CHr.safe CRq102 E1.lt (SL0 _ (List.mem_of_getElem? (i := 0) rfl)))
  refine own_go (B := T102.setTop (mkF m 11 #[.val (.ref a1), .val (.ref a2), .val (.int (0 : Int32)), .val (.int (0 : Int32)), .val .null, .unset] [(.ref la102), (.ref a1)])) (st102) ?_
  obtain ⟨T103, X103, e103, st103⟩ := getF X102 hx hZ hown (host := "") (Or.inl (hw _ (List.mem_of_getElem? (i := 32) rfl))) Via.refl e102 Fv102 (g := (mkF m 11 #[.val (.ref a1), .val (.ref a2), .val (.int (0 : Int32)), .val (.int (0 : Int32)), .val .null, .unset] [(.ref la102), (.ref a1)])) rfl rfl (hb hby d3_11)
  refine own_go (B := T103.setTop (mkF m 14 #[.val (.ref a1), .val (.ref a2), .val (.int (0 : Int32)), .val (.int (0 : Int32)), .val .null, .unset] [(.ref tb102), (.ref a1)])) (st103) ?_
  obtain ⟨T104, h104, X104, e104, W104, st104⟩ := putF X103 hx hZ hown (host := "") (Or.inl (hw _ (List.mem_of_getElem? (i := 32) rfl))) Via.refl e103 (Fv.ext E102) (E1.ext E102) (Or.inr ⟨(hw _ (List.mem_of_getElem? (i := 33) rfl)), rfl, hnm⟩) (hw _ (List.mem_of_getElem? (i := 5) rfl)) (ty := (.array .byte)) (by decide) rfl rfl (g := (mkF m 14 #[.val (.ref a1), .val (.ref a2), .val (.int (0 : Int32)), .val (.int (0 : Int32)), .val .null, .unset] [(.ref tb102), (.ref a1)])) rfl rfl (hb hby d3_14)
  have Fw104 := (Fv.ext E102).same W104
  have CH104 := CHv.wr W104 (CHr.safe CRq102 E1.lt (SL0 _ (List.mem_of_getElem? (i := 0) rfl))) CH102
  have CR104 := CR102.trans (CHr.wr W104 (CHr.safe CRq102 E1.lt (SL0 _ (List.mem_of_getElem? (i := 0) rfl))) CH102)
  have O104 := O102.wr W104 g1
  have N104 := Fr.snoc X104 N0 g1
  have K104' : Keep h0 h104 ([a1] : List Addr) := K102'.wr W104 (Or.inl (List.mem_of_getElem? (i := 0) rfl))
  refine own_go (B := T104.setTop (mkF m 17 #[.val (.ref a1), .val (.ref a2), .val (.int (0 : Int32)), .val (.int (0 : Int32)), .val .null, .unset] [])) (st104) ?_
  refine own_go (B := T104.setTop (mkF m 18 #[.val (.ref a1), .val (.ref a2), .val (.int (0 : Int32)), .val (.int (0 : Int32)), .val .null, .unset] [(.ref a1)])) (fun _ k => XS.aloadN X104.here hx rfl (hb hby d3_17) rfl rfl k) ?_
  obtain ⟨la105, T105, h105, k105, tb105, kb105, X105, e105, E105, SN105, hk105, hZ, hown, Ex105, Fc105, Fv105, Vb105, -, -, CRq105, -, Ne105, st105⟩ := ldcCH (s := s) (vm0 := T102.vm) X104 hx hZ hown (hw _ (List.mem_of_getElem? (i := 34) rfl)) wS e104 SN102 (Nat.le_trans hk102 (Keep.of_wr W104).1) hEL (by decide) CH104 (vs := []) (z := (0 : Int32)) ⟨by decide, rfl⟩ (by decide) rfl (g := (mkF m 18 #[.val (.ref a1), .val (.ref a2), .val (.int (0 : Int32)), .val (.int (0 : Int32)), .val .null, .unset] [(.ref a1)])) rfl (hb hby d3_18) (n := 0) (by decide) (by decide) (by decide) (by decide)
  have O105 := O104.ext E105
  have K105' : Keep h0 h105 ([a1] : List Addr) := K104'.ext E105
  have CH105 := CRq105.1
  have CR105 := CR104.trans CRq105
  have nl105_a1 := Ne105 a1 (CHr.safe CRq105 ((E1.ext E102).wr W104).lt (Safe.wr W104 (CHr.safe CRq102 E1.lt (SL0 _ (List.mem_of_getElem? (i := 0) rfl))) CH102 (CHr.safe CRq102 E1.lt (SL0 _ (List.mem_of_getElem? (i := 0) rfl)))))
  refine own_go (B := T105.setTop (mkF m 20 #[.val (.ref a1), .val (.ref a2), .val (.int (0 : Int32)), .val (.int (0 : Int32)), .val .null, .unset] [(.ref la105), (.ref a1)])) (st105) ?_
  obtain ⟨T106, X106, e106, st106⟩ := getF X105 hx hZ hown (host := "") (Or.inl (hw _ (List.mem_of_getElem? (i := 30) rfl))) Via.refl e105 Fc105 (g := (mkF m 20 #[.val (.ref a1), .val (.ref a2), .val (.int (0 : Int32)), .val (.int (0 : Int32)), .val .null, .unset] [(.ref la105), (.ref a1)])) rfl rfl (hb hby d3_20)
  refine own_go (B := T106.setTop (mkF m 23 #[.val (.ref a1), .val (.ref a2), .val (.int (0 : Int32)), .val (.int (0 : Int32)), .val .null, .unset] [(.int (0 : Int32)), (.ref a1)])) (st106) ?_
  obtain ⟨T107, h107, X107, e107, W107, st107⟩ := putFN X106 hx hZ hown (hw _ (List.mem_of_getElem? (i := 30) rfl)) Via.refl e106 (((Fc.ext E102).other W104 (Or.inr (slot_ne (Or.inr (hw _ (List.mem_of_getElem? (i := 31) rfl))) (Or.inr (hw _ (List.mem_of_getElem? (i := 33) rfl))) (by decide) (t := .byte) (t' := (.array .byte)) (by decide) (by decide)))).ext E105) (((E1.ext E102).wr W104).ext E105) (Or.inr ⟨(hw _ (List.mem_of_getElem? (i := 31) rfl)), rfl, hnm⟩) (hw _ (List.mem_of_getElem? (i := 5) rfl)) (ty := .byte) (v' := .int ((0 : Int32))) (by decide) rfl (by decide) (g := (mkF m 23 #[.val (.ref a1), .val (.ref a2), .val (.int (0 : Int32)), .val (.int (0 : Int32)), .val .null, .unset] [(.int (0 : Int32)), (.ref a1)])) rfl rfl (hb hby d3_23)
  have Fw107 := (((Fc.ext E102).other W104 (Or.inr (slot_ne (Or.inr (hw _ (List.mem_of_getElem? (i := 31) rfl))) (Or.inr (hw _ (List.mem_of_getElem? (i := 33) rfl))) (by decide) (t := .byte) (t' := (.array .byte)) (by decide) (by decide)))).ext E105).same W107
  have CH107 := CHv.wr W107 (CHr.safe CRq105 ((E1.ext E102).wr W104).lt (Safe.wr W104 (CHr.safe CRq102 E1.lt (SL0 _ (List.mem_of_getElem? (i := 0) rfl))) CH102 (CHr.safe CRq102 E1.lt (SL0 _ (List.mem_of_getElem? (i := 0) rfl))))) CH105
  have CR107 := CR105.trans (CHr.wr W107 (CHr.safe CRq105 ((E1.ext E102).wr W104).lt (Safe.wr W104 (CHr.safe CRq102 E1.lt (SL0 _ (List.mem_of_getElem? (i := 0) rfl))) CH102 (CHr.safe CRq102 E1.lt (SL0 _ (List.mem_of_getElem? (i := 0) rfl))))) CH105)
  have O107 := O105.wr W107 g1
  have N107 := Fr.snoc X107 N104 g1
  have K107' : Keep h0 h107 ([a1] : List Addr) := K105'.wr W107 (Or.inl (List.mem_of_getElem? (i := 0) rfl))
  refine own_go (B := T107.setTop (mkF m 26 #[.val (.ref a1), .val (.ref a2), .val (.int (0 : Int32)), .val (.int (0 : Int32)), .val .null, .unset] [])) (st107) ?_
  obtain ⟨fs, hr, hrun, hended, hW, hsame⟩ := X107.leave (v := none) (fun _ => rfl)
  obtain ⟨en1, en2, en3⟩ := State.Since.ended (s := s) (vm₁ := T105.vm) SN105 hW (by show _ ≤ T107.heap.size; rw [e107]; exact (Nat.le_trans hk105 (Keep.of_wr W107).1)) hsame
  have CRe := CR107.trans (CHv.at (s := s) (vm0 := T105.vm) X107 hZ hEL CH107)
  have CRf : CHr Z own_EL s.vm s.heap T107.vm T107.heap := by rw [hh, e107]; exact CRe
  refine ⟨_, _, X107.returnOut hx Bd.returns (hb hby d3_26) hr, hrun, hended, _, _, rfl, ?_, CRf, ⟨_, rfl⟩, en1, en2, en3.mono (by decide) (by decide)⟩
  show Q_rmS4 Z zC fm a1 a2 u0 h0 n0 _ T107.heap _
  rw [e107]
  exact ⟨rfl, N107, K107', ⟨tb102, kb102, (0 : Int32), [], ((((E1.ext E102).wr W104).ext E105).wr W107), ((Fw104.ext E105).other W107 (Or.inr (slot_ne (Or.inr (hw _ (List.mem_of_getElem? (i := 33) rfl))) (Or.inr (hw _ (List.mem_of_getElem? (i := 31) rfl))) (by decide) (t := (.array .byte)) (t' := .byte) (by decide) (by decide)))), Fw107, (((Vb102.other W104 (Ne.symm nl102_a1.2)).ext E105).other W107 (Ne.symm nl102_a1.2)), Or.inl ⟨rfl, rfl, rfl, by decide⟩, by decide, by decide⟩⟩
theorem pd_0 : parseMethodDescriptor "([CIILjava/lang/Void;)V" = some ⟨[(.array .char), .int, .int, (.object "java/lang/Void")], none⟩ := by decide +kernel
theorem d2_0 : decode jdk_42_method_3_code 0 = .ok (.aload_n 0, 1) := by decide +kernel
theorem d2_1 : decode jdk_42_method_3_code 1 = .ok (.aload_n 1, 1) := by decide +kernel
theorem d2_2 : decode jdk_42_method_3_code 2 = .ok (.iconst 0, 1) := by decide +kernel
theorem d2_3 : decode jdk_42_method_3_code 3 = .ok (.aload_n 1, 1) := by decide +kernel
theorem d2_4 : decode jdk_42_method_3_code 4 = .ok (.arraylength, 1) := by decide +kernel
theorem d2_5 : decode jdk_42_method_3_code 5 = .ok (.aconst_null, 1) := by decide +kernel
theorem d2_6 : decode jdk_42_method_3_code 6 = .ok (.invokespecial 27, 3) := by decide +kernel
theorem d2_9 : decode jdk_42_method_3_code 9 = .ok (.return_, 1) := by decide +kernel
theorem ef_rmS1 (m : MethodId) (a1 : Addr) (a2 : Addr) : entryFrame m #[(.ref a1), (.ref a2)] 2 = mkF m 0 #[.val (.ref a1), .val (.ref a2)] [] := by first | (simp [entryFrame, mkF, argsToLocals, Value.category]; done) | rfl
def Q_rmS1 (Z : State) (zC : Int32) (fm : Value) (a1 : Addr) (a2 : Addr) (kC : ClassId) (u0 : Value) (h0 : Heap) (n0 : Nat) (v : Option Value) (h : Heap) (L : List Loc) : Prop := v = none ∧ Fr n0 L ∧ Keep h0 h [a1] ∧ own_Str Z h a1 []
set_option maxRecDepth 65536 in
set_option maxHeartbeats 40000000 in
theorem rmS1 (l : Launch) (Z : State) (a0 : Array Value) (hw : ∀ d ∈ tables_1, d.before a0 Z = true) (ws : List Jvm.Cond) (zC : Int32) (fm : Value) (G : own_G Z zC fm) (a1 : Addr) (a2 : Addr) (kC : ClassId) (u0 : Value) (h0 : Heap) (n0 : Nat) (Z0 : n0 ≤ h0.size) (O0 : Old Z n0 h0) (E1 : Exa Z h0 a1 "java/lang/String") (Fv : Fld Z h0 a1 "java/lang/String" "value" "[B" u0) (Fc : Fld Z h0 a1 "java/lang/String" "coder" "B" (.int (0 : Int32))) (g1 : n0 ≤ a1) (Va : Arv Z h0 a2 kC .char (0 : Int32) [] (.int (0 : Int32))) :
    MetFree l (⟨"java/lang/String", "<init>", "([C)V"⟩ : MethodName) (head1 (Jvm.Cond.code (⟨"java/lang/String", "<init>", "([C)V"⟩ : MethodName) jdk_42_method_3_code 2 none :: ws) ({ frames := 2, cells := 4, slots := 8, locals := 29 } : Room)) (fun a U => a = #[(.ref a1), (.ref a2)] ∧ Z.Warmed39 U.vm ∧ U.heap = h0 ∧ CHv Z own_EL U.vm h0 ∧ ∀ x ∈ ([a1] : List Addr), Safe Z own_EL U.vm h0 x) (fun _ _ _ _ _ => True) (fun _ U o U' => ∃ v L, o = .returned v ∧ Q_rmS1 Z zC fm a1 a2 kC u0 h0 n0 v U'.heap L ∧ CHr Z own_EL U.vm U.heap U'.vm U'.heap ∧ ReturnedEndW U o U' L ({ frames := 2, cells := 4, slots := 8, locals := 29 } : Room).cells ({ frames := 2, cells := 4, slots := 8, locals := 29 } : Room).slots) := by
  refine MetFree.of_bodySF (plainFor_of_name pn_3) hisR ?_
  intro p e s m args below meth c s₁ Bd hml0 hP hK
  obtain ⟨rfl, hZ, hh, CH0, SL0⟩ := hP
  have hx := Bd.exec
  have hby := Bd.bytes
  have hml : c.maxLocals = 2 := hml0
  have hown : s.vm.findClass "java/lang/String" = some m.cls := findClass_of_methodNamed Bd.named
  have hnm := (name_of_methodNamed Bd.named Bd.method).1
  have X0 : Stand p l e ({ frames := 2, cells := 4, slots := 8, locals := 29 } : Room) s m #[(.ref a1), (.ref a2)] below meth c s₁ [] 0 0 := Stand.of_body Bd
  have e0 : s₁.heap = h0 := by rw [← hh, Bd.state]; rfl
  have N0 := Fr.nil n0
  have K0 := Keep.refl h0 ([a1] : List Addr)
  have S0 : s.Since s.vm 0 := (State.WarmedH.refl s).since 0
  have CR0 := CHr.refl CH0
  have hEL := own_EW hw
  have wS := own_wS hw
  have G_ := G
  obtain ⟨S_String_COMPACT_STRINGS, hzC, S_Preconditions_SIOOBE_FORMATTER, hfm, G_end⟩ := G_
  change own_Go p e below _ _
  refine own_go (B := s₁.setTop (mkF m 0 #[.val (.ref a1), .val (.ref a2)] [])) (fun _ k => castTop (ef_rmS1 m a1 a2) k) ?_
  refine own_go (B := s₁.setTop (mkF m 1 #[.val (.ref a1), .val (.ref a2)] [(.ref a1)])) (fun _ k => XS.aloadN X0.here hx rfl (hb hby d2_0) rfl rfl k) ?_
  refine own_go (B := s₁.setTop (mkF m 2 #[.val (.ref a1), .val (.ref a2)] [(.ref a2), (.ref a1)])) (fun _ k => XS.aloadN X0.here hx rfl (hb hby d2_1) rfl rfl k) ?_
  refine own_go (B := s₁.setTop (mkF m 3 #[.val (.ref a1), .val (.ref a2)] [(.int (0 : Int32)), (.ref a2), (.ref a1)])) (fun _ k => XS.iconst X0.here hx rfl (hb hby d2_2) k) ?_
  refine own_go (B := s₁.setTop (mkF m 4 #[.val (.ref a1), .val (.ref a2)] [(.ref a2), (.int (0 : Int32)), (.ref a2), (.ref a1)])) (fun _ k => XS.aloadN X0.here hx rfl (hb hby d2_3) rfl rfl k) ?_
  obtain ⟨cl101, Ar101, -, Sz101, Nn101, -, -⟩ := id Va
  refine own_go (B := s₁.setTop (mkF m 5 #[.val (.ref a1), .val (.ref a2)] [(.int cl101.slots.size.toInt32), (.int (0 : Int32)), (.ref a2), (.ref a1)])) (X0.arraylength hx (by rw [e0]; exact Ar101.1) (State.isArrayOf_alike hZ.alike Ar101.2.1) (g := (mkF m 4 #[.val (.ref a1), .val (.ref a2)] [(.ref a2), (.int (0 : Int32)), (.ref a2), (.ref a1)])) rfl rfl (hb hby d2_4)) ?_
  rw [len_of Sz101 Nn101]
  refine own_go (B := s₁.setTop (mkF m 6 #[.val (.ref a1), .val (.ref a2)] [.null, (.int (0 : Int32)), (.int (0 : Int32)), (.ref a2), (.ref a1)])) (fun _ k => XS.aconstNull X0.here hx rfl (hb hby d2_5) k) ?_
  obtain ⟨_, _, ⟨T102, L102, k102, n102⟩, -, X102, SN102, gr102, ⟨Lc102, hQ102, l102, y102, z102, CRq102⟩, st102⟩ := X0.specialBackS hx (y := (⟨"java/lang/String", "<init>", "([CIILjava/lang/Void;)V"⟩ : MethodName)) rfl hown (mvT hZ (hw _ (List.mem_of_getElem? (i := 11) rfl))) (mvT hZ (hw _ (List.mem_of_getElem? (i := 12) rfl))) (mvT hZ (hw _ (List.mem_of_getElem? (i := 14) rfl))) (by decide) (own_backSH (s := s) (vm0 := s.vm) (SL := [a1]) (W := 0) (rmS4 l Z a0 hw [] zC fm G a1 a2 u0 h0 n0 (Nat.le_trans Z0 K0.1) O0 E1 Fv Fc g1) hZ (hw _ (List.mem_of_getElem? (i := 14) rfl)) (hw _ (List.mem_of_getElem? (i := 6) rfl)) (by decide) (by decide) hEL CH0 (allS ⟨(SL0 _ (List.mem_of_getElem? (i := 0) rfl)), E1.lt⟩ all0)) (g := (mkF m 6 #[.val (.ref a1), .val (.ref a2)] [.null, (.int (0 : Int32)), (.int (0 : Int32)), (.ref a2), (.ref a1)])) rfl (by rw [hml]; rfl) (Steps.refl _) (a := a1) (argsL := [(.ref a2), (.int (0 : Int32)), (.int (0 : Int32)), .null]) (rest := []) (lenOf pd_0 rfl) rfl (by show 2 * 0 + _ ≤ _; exact Nat.le_of_eq rfl) (hb hby d2_6) (fun _ _ => ⟨rfl, e0, (by decide : 0 + 4 ≤ 4), (by decide : 0 + 8 ≤ 8)⟩)
  dsimp only [Pt.U, Pt.locs, Pt.cells, Pt.slots] at X102 l102 y102 z102 st102 hQ102 SN102 gr102 CRq102
  subst l102 y102 z102
  obtain ⟨X102, SN102, hZ, hown⟩ := rebS (s := s) (vm0 := s.vm) S0 (by rw [e0]; exact (Nat.zero_le _)) X102 SN102 gr102 hZ hown
  have CH102 := CRq102.1
  have CR102 := CR0.trans CRq102
  obtain ⟨rfl, N102q, K102, Str_102⟩ := hQ102
  have N102 := Fr.app N0 N102q
  have O102 := O0.keep K102 (allS g1 all0)
  have K102' : Keep h0 T102.heap ([a1] : List Addr) := K0.trans K102 (allS (Or.inl (List.mem_of_getElem? (i := 0) rfl)) all0)
  obtain ⟨t103, kb103, Nb103, vs103, Es103, Fv103, Fc103, Vb103, cd103, rg103, ln103⟩ := Str_102
  refine own_go (B := T102.setTop (mkF m 9 #[.val (.ref a1), .val (.ref a2)] [])) (fun _ k => st102.trans k) ?_
  obtain ⟨fs, hr, hrun, hended, hW, hsame⟩ := X102.leave (v := none) (fun _ => rfl)
  obtain ⟨en1, en2, en3⟩ := State.Since.ended (s := s) (vm₁ := T102.vm) SN102 hW (by show _ ≤ T102.heap.size; exact (Nat.le_refl _)) hsame
  have CRe := CR102.trans (CHv.at (s := s) (vm0 := T102.vm) X102 hZ hEL CH102)
  have CRf : CHr Z own_EL s.vm s.heap T102.vm T102.heap := by rw [hh]; exact CRe
  refine ⟨_, _, X102.returnOut hx Bd.returns (hb hby d2_9) hr, hrun, hended, _, _, rfl, ?_, CRf, ⟨_, rfl⟩, en1, en2, en3.mono (by decide) (by decide)⟩
  show Q_rmS1 Z zC fm a1 a2 kC u0 h0 n0 _ T102.heap _
  exact ⟨rfl, N102, K102', (⟨t103, kb103, Nb103, vs103, Es103, Fv103, Fc103, Vb103, cd103, rg103, ln103⟩ : own_Str Z T102.heap a1 [])⟩
theorem pd_1 : parseMethodDescriptor "([C)V" = some ⟨[(.array .char)], none⟩ := by decide +kernel
theorem d1_0 : decode method_2_code 0 = .ok (.iload_n 0, 1) := by decide +kernel
theorem d1_1 : decode method_2_code 1 = .ok (.ifCond .ne 14, 3) := by decide +kernel
theorem d1_4 : decode method_2_code 4 = .ok (.new 7, 3) := by decide +kernel
theorem d1_7 : decode method_2_code 7 = .ok (.dup, 1) := by decide +kernel
theorem d1_8 : decode method_2_code 8 = .ok (.iconst 0, 1) := by decide +kernel
theorem d1_9 : decode method_2_code 9 = .ok (.newarray .char, 2) := by decide +kernel
theorem d1_11 : decode method_2_code 11 = .ok (.invokespecial 9, 3) := by decide +kernel
theorem d1_14 : decode method_2_code 14 = .ok (.areturn, 1) := by decide +kernel
theorem d1_15 : decode method_2_code 15 = .ok (.iload_n 0, 1) := by decide +kernel
theorem d1_16 : decode method_2_code 16 = .ok (.iconst 1, 1) := by decide +kernel
theorem d1_17 : decode method_2_code 17 = .ok (.if_icmp .ne 18, 3) := by decide +kernel
theorem d1_20 : decode method_2_code 20 = .ok (.new 7, 3) := by decide +kernel
theorem d1_23 : decode method_2_code 23 = .ok (.dup, 1) := by decide +kernel
theorem d1_24 : decode method_2_code 24 = .ok (.iconst 1, 1) := by decide +kernel
theorem d1_25 : decode method_2_code 25 = .ok (.newarray .char, 2) := by decide +kernel
theorem d1_27 : decode method_2_code 27 = .ok (.dup, 1) := by decide +kernel
theorem d1_28 : decode method_2_code 28 = .ok (.iconst 0, 1) := by decide +kernel
theorem d1_29 : decode method_2_code 29 = .ok (.iload_n 1, 1) := by decide +kernel
theorem d1_30 : decode method_2_code 30 = .ok (.castore, 1) := by decide +kernel
theorem d1_31 : decode method_2_code 31 = .ok (.invokespecial 9, 3) := by decide +kernel
theorem d1_34 : decode method_2_code 34 = .ok (.areturn, 1) := by decide +kernel
theorem d1_35 : decode method_2_code 35 = .ok (.iload_n 0, 1) := by decide +kernel
theorem d1_36 : decode method_2_code 36 = .ok (.iconst 2, 1) := by decide +kernel
theorem d1_37 : decode method_2_code 37 = .ok (.if_icmp .ne 22, 3) := by decide +kernel
theorem d1_40 : decode method_2_code 40 = .ok (.new 7, 3) := by decide +kernel
theorem d1_43 : decode method_2_code 43 = .ok (.dup, 1) := by decide +kernel
theorem d1_44 : decode method_2_code 44 = .ok (.iconst 2, 1) := by decide +kernel
theorem d1_45 : decode method_2_code 45 = .ok (.newarray .char, 2) := by decide +kernel
theorem d1_47 : decode method_2_code 47 = .ok (.dup, 1) := by decide +kernel
theorem d1_48 : decode method_2_code 48 = .ok (.iconst 0, 1) := by decide +kernel
theorem d1_49 : decode method_2_code 49 = .ok (.iload_n 1, 1) := by decide +kernel
theorem d1_50 : decode method_2_code 50 = .ok (.castore, 1) := by decide +kernel
theorem d1_51 : decode method_2_code 51 = .ok (.dup, 1) := by decide +kernel
theorem d1_52 : decode method_2_code 52 = .ok (.iconst 1, 1) := by decide +kernel
theorem d1_53 : decode method_2_code 53 = .ok (.iload_n 2, 1) := by decide +kernel
theorem d1_54 : decode method_2_code 54 = .ok (.castore, 1) := by decide +kernel
theorem d1_55 : decode method_2_code 55 = .ok (.invokespecial 9, 3) := by decide +kernel
theorem d1_58 : decode method_2_code 58 = .ok (.areturn, 1) := by decide +kernel
theorem d1_59 : decode method_2_code 59 = .ok (.new 7, 3) := by decide +kernel
theorem d1_62 : decode method_2_code 62 = .ok (.dup, 1) := by decide +kernel
theorem d1_63 : decode method_2_code 63 = .ok (.iconst 3, 1) := by decide +kernel
theorem d1_64 : decode method_2_code 64 = .ok (.newarray .char, 2) := by decide +kernel
theorem d1_66 : decode method_2_code 66 = .ok (.dup, 1) := by decide +kernel
theorem d1_67 : decode method_2_code 67 = .ok (.iconst 0, 1) := by decide +kernel
theorem d1_68 : decode method_2_code 68 = .ok (.iload_n 1, 1) := by decide +kernel
theorem d1_69 : decode method_2_code 69 = .ok (.castore, 1) := by decide +kernel
theorem d1_70 : decode method_2_code 70 = .ok (.dup, 1) := by decide +kernel
theorem d1_71 : decode method_2_code 71 = .ok (.iconst 1, 1) := by decide +kernel
theorem d1_72 : decode method_2_code 72 = .ok (.iload_n 2, 1) := by decide +kernel
theorem d1_73 : decode method_2_code 73 = .ok (.castore, 1) := by decide +kernel
theorem d1_74 : decode method_2_code 74 = .ok (.dup, 1) := by decide +kernel
theorem d1_75 : decode method_2_code 75 = .ok (.iconst 2, 1) := by decide +kernel
theorem d1_76 : decode method_2_code 76 = .ok (.iload_n 3, 1) := by decide +kernel
theorem d1_77 : decode method_2_code 77 = .ok (.castore, 1) := by decide +kernel
theorem d1_78 : decode method_2_code 78 = .ok (.invokespecial 9, 3) := by decide +kernel
theorem d1_81 : decode method_2_code 81 = .ok (.areturn, 1) := by decide +kernel
theorem pn_1 : plainName "com/example/facts_from_rules/factsfromrules/VariableEqualsPinLaw" = true := by first | (simp [plainName, overriddenIn]; done) | decide +kernel
theorem ef_rm1 (m : MethodId) (p0 : Int32) (c0 : Int32) (c1 : Int32) (c2 : Int32) : entryFrame m #[(.int p0), (.int c0), (.int c1), (.int c2)] 4 = mkF m 0 #[.val (.int p0), .val (.int c0), .val (.int c1), .val (.int c2)] [] := by first | (simp [entryFrame, mkF, argsToLocals, Value.category]; done) | rfl
def Q_rm1 (Z : State) (zC : Int32) (fm : Value) (p0 : Int32) (c0 : Int32) (c1 : Int32) (c2 : Int32) (h0 : Heap) (n0 : Nat) (v : Option Value) (h : Heap) (L : List Loc) : Prop := ∃ (r : Addr), v = some (.ref r) ∧ Fr n0 L ∧ Keep h0 h [] ∧ h0.size ≤ r ∧ own_Str Z h r (own_mk p0 c0 c1 c2)
set_option maxRecDepth 65536 in
set_option maxHeartbeats 40000000 in
theorem rm1 (l : Launch) (Z : State) (a0 : Array Value) (hw : ∀ d ∈ tables_1, d.before a0 Z = true) (ws : List Jvm.Cond) (zC : Int32) (fm : Value) (G : own_G Z zC fm) (p0 : Int32) (c0 : Int32) (c1 : Int32) (c2 : Int32) (h0 : Heap) (n0 : Nat) (Z0 : n0 ≤ h0.size) (O0 : Old Z n0 h0) (r0 : own_rg c0) (r1 : own_rg c1) (r2 : own_rg c2) :
    MetFree l (⟨"com/example/facts_from_rules/factsfromrules/VariableEqualsPinLaw", "mk", "(ICCC)Ljava/lang/String;"⟩ : MethodName) (head1 (Jvm.Cond.code (⟨"com/example/facts_from_rules/factsfromrules/VariableEqualsPinLaw", "mk", "(ICCC)Ljava/lang/String;"⟩ : MethodName) method_2_code 4 (some (.object "java/lang/String")) :: ws) ({ frames := 4, cells := 6, slots := 12, locals := 66 } : Room)) (fun a U => a = #[(.int p0), (.int c0), (.int c1), (.int c2)] ∧ Z.Warmed39 U.vm ∧ U.heap = h0 ∧ CHv Z own_EL U.vm h0 ∧ ∀ x ∈ ([] : List Addr), Safe Z own_EL U.vm h0 x) (fun _ _ _ _ _ => True) (fun _ U o U' => ∃ v L, o = .returned v ∧ Q_rm1 Z zC fm p0 c0 c1 c2 h0 n0 v U'.heap L ∧ CHr Z own_EL U.vm U.heap U'.vm U'.heap ∧ ReturnedEndW U o U' L ({ frames := 4, cells := 6, slots := 12, locals := 66 } : Room).cells ({ frames := 4, cells := 6, slots := 12, locals := 66 } : Room).slots) := by
  refine MetFree.of_bodySF (plainFor_of_name pn_1) hisR ?_
  intro p e s m args below meth c s₁ Bd hml0 hP hK
  obtain ⟨rfl, hZ, hh, CH0, SL0⟩ := hP
  have hx := Bd.exec
  have hby := Bd.bytes
  have hml : c.maxLocals = 4 := hml0
  have hown : s.vm.findClass "com/example/facts_from_rules/factsfromrules/VariableEqualsPinLaw" = some m.cls := findClass_of_methodNamed Bd.named
  have hnm := (name_of_methodNamed Bd.named Bd.method).1
  have X0 : Stand p l e ({ frames := 4, cells := 6, slots := 12, locals := 66 } : Room) s m #[(.int p0), (.int c0), (.int c1), (.int c2)] below meth c s₁ [] 0 0 := Stand.of_body Bd
  have e0 : s₁.heap = h0 := by rw [← hh, Bd.state]; rfl
  have N0 := Fr.nil n0
  have K0 := Keep.refl h0 ([] : List Addr)
  have S0 : s.Since s.vm 0 := (State.WarmedH.refl s).since 0
  have CR0 := CHr.refl CH0
  have hEL := own_EW hw
  have wS := own_wS hw
  have G_ := G
  obtain ⟨S_String_COMPACT_STRINGS, hzC, S_Preconditions_SIOOBE_FORMATTER, hfm, G_end⟩ := G_
  change own_Go p e below _ _
  refine own_go (B := s₁.setTop (mkF m 0 #[.val (.int p0), .val (.int c0), .val (.int c1), .val (.int c2)] [])) (fun _ k => castTop (ef_rm1 m p0 c0 c1 c2) k) ?_
  refine own_go (B := s₁.setTop (mkF m 1 #[.val (.int p0), .val (.int c0), .val (.int c1), .val (.int c2)] [(.int p0)])) (fun _ k => XS.iloadN X0.here hx rfl (hb hby d1_0) rfl k) ?_
  by_cases hc1 : p0 = (0 : Int32)
  · refine own_go (B := s₁.setTop (mkF m 4 #[.val (.int p0), .val (.int c0), .val (.int c1), .val (.int c2)] [])) (fun _ k => XS.ifNo X0.here hx rfl (hb hby d1_1) rfl ((if0 _ _).trans (teq hc1).2) k) ?_
    obtain ⟨T101, h101, X101, e101, E101, A101, D101, -, st101⟩ := newO X0 hx hZ hown (hw _ (List.mem_of_getElem? (i := 4) rfl)) (hw _ (List.mem_of_getElem? (i := 5) rfl)) (hw _ (List.mem_of_getElem? (i := 6) rfl)) e0 (g := (mkF m 4 #[.val (.int p0), .val (.int c0), .val (.int c1), .val (.int c2)] [])) rfl (hb hby d1_4) (by decide) (by decide)
    obtain ⟨b101, g101⟩ : ∃ z, z = h0.size := ⟨_, rfl⟩
    rw [← g101] at A101 D101 st101
    have g_b101 : n0 ≤ b101 := Nat.le_trans (Nat.le_trans Z0 K0.1) (Nat.le_of_eq g101.symm)
    have sz_b101 : h0.size ≤ b101 := Nat.le_trans K0.1 (Nat.le_of_eq g101.symm)
    have CH101 := CHv.ext E101 CH0
    have CR101 := CR0.trans (CHr.ext E101 CH0)
    have Sf_b101 := Safe.ext E101 CH0 (Safe.new (Nat.le_of_eq g101.symm))
    have O101 := O0.ext E101
    have K101' : Keep h0 h101 ([] : List Addr) := K0.ext E101
    have F_coder_b101 : Fld Z h101 b101 "java/lang/String" "coder" "B" (.int (0 : Int32)) := D101 (Or.inr (hw _ (List.mem_of_getElem? (i := 31) rfl))) (ty := .byte) (by decide)
    have F_value_b101 : Fld Z h101 b101 "java/lang/String" "value" "[B" .null := D101 (Or.inr (hw _ (List.mem_of_getElem? (i := 33) rfl))) (ty := (.array .byte)) (by decide)
    refine own_go (B := T101.setTop (mkF m 7 #[.val (.int p0), .val (.int c0), .val (.int c1), .val (.int c2)] [(.ref b101)])) (st101) ?_
    refine own_go (B := T101.setTop (mkF m 8 #[.val (.int p0), .val (.int c0), .val (.int c1), .val (.int c2)] [(.ref b101), (.ref b101)])) (fun _ k => XS.dup X101.here hx rfl (hb hby d1_7) rfl rfl k) ?_
    refine own_go (B := T101.setTop (mkF m 9 #[.val (.int p0), .val (.int c0), .val (.int c1), .val (.int c2)] [(.int (0 : Int32)), (.ref b101), (.ref b101)])) (fun _ k => XS.iconst X101.here hx rfl (hb hby d1_8) k) ?_
    obtain ⟨T102, h102, k102, X102, e102, E102, A102, st102⟩ := newP X101 hx hZ (hw _ (List.mem_of_getElem? (i := 7) rfl)) e101 (g := (mkF m 9 #[.val (.int p0), .val (.int c0), .val (.int c1), .val (.int c2)] [(.int (0 : Int32)), (.ref b101), (.ref b101)])) rfl (hb hby d1_9) rfl (by decide) (cap := 0) (by decide) (by decide) (by decide) (by decide)
    obtain ⟨b102, g102⟩ : ∃ z, z = h101.size := ⟨_, rfl⟩
    rw [← g102] at A102 st102
    have g_b102 : n0 ≤ b102 := Nat.le_trans (Nat.le_trans Z0 K101'.1) (Nat.le_of_eq g102.symm)
    have sz_b102 : h0.size ≤ b102 := Nat.le_trans K101'.1 (Nat.le_of_eq g102.symm)
    have ne102_1 : b101 ≠ b102 := Nat.ne_of_lt (Nat.lt_of_lt_of_le A101.lt (Nat.le_of_eq g102.symm))
    have CH102 := CHv.ext E102 CH101
    have CR102 := CR101.trans (CHr.ext E102 CH101)
    have Sf_b102 := Safe.ext E102 CH101 (Safe.new (Nat.le_of_eq g102.symm))
    have O102 := O101.ext E102
    have K102' : Keep h0 h102 ([] : List Addr) := K101'.ext E102
    have V_b102 : Arv Z h102 b102 k102 .char (0 : Int32) [] (.int (0 : Int32)) := (Arv.new A102 (by decide)).pad (pad_rep [] (.int (0 : Int32)) 0)
    refine own_go (B := T102.setTop (mkF m 11 #[.val (.int p0), .val (.int c0), .val (.int c1), .val (.int c2)] [(.ref b102), (.ref b101), (.ref b101)])) (st102) ?_
    obtain ⟨_, _, ⟨T103, L103, k103, n103⟩, -, X103, SN103, gr103, ⟨Lc103, hQ103, l103, y103, z103, CRq103⟩, st103⟩ := X102.specialBackS hx (y := (⟨"java/lang/String", "<init>", "([C)V"⟩ : MethodName)) rfl hown (mvT hZ (hw _ (List.mem_of_getElem? (i := 8) rfl))) (mvT hZ (hw _ (List.mem_of_getElem? (i := 9) rfl))) (mvT hZ (hw _ (List.mem_of_getElem? (i := 10) rfl))) (by decide) (own_backSH (s := s) (vm0 := s.vm) (SL := [b101]) (W := 1) (rmS1 l Z a0 hw [] zC fm G b101 b102 k102 .null h102 n0 (Nat.le_trans Z0 K102'.1) O102 (A101.ext E102) (F_value_b101.ext E102) (F_coder_b101.ext E102) g_b101 V_b102) hZ (hw _ (List.mem_of_getElem? (i := 10) rfl)) (hw _ (List.mem_of_getElem? (i := 6) rfl)) (by decide) (by decide) hEL CH102 (allS ⟨(Safe.ext E102 CH101 Sf_b101), (A101.ext E102).lt⟩ all0)) (g := (mkF m 11 #[.val (.int p0), .val (.int c0), .val (.int c1), .val (.int c2)] [(.ref b102), (.ref b101), (.ref b101)])) rfl (by rw [hml]; rfl) (Steps.refl _) (a := b101) (argsL := [(.ref b102)]) (rest := [(.ref b101)]) (lenOf pd_1 rfl) rfl (by show 2 * 0 + _ ≤ _; exact Nat.le_of_eq rfl) (hb hby d1_11) (fun _ _ => ⟨rfl, e102, (by decide : 2 + 4 ≤ 6), (by decide : 4 + 8 ≤ 12)⟩)
    dsimp only [Pt.U, Pt.locs, Pt.cells, Pt.slots] at X103 l103 y103 z103 st103 hQ103 SN103 gr103 CRq103
    subst l103 y103 z103
    obtain ⟨X103, SN103, hZ, hown⟩ := rebS (s := s) (vm0 := s.vm) S0 (by rw [e102]; exact (Nat.zero_le _)) X103 SN103 gr103 hZ hown
    have CH103 := CRq103.1
    have CR103 := CR102.trans CRq103
    obtain ⟨rfl, N103q, K103, Str_103⟩ := hQ103
    have N103 := Fr.app N0 N103q
    have O103 := O102.keep K103 (allS g_b101 all0)
    have K103' : Keep h0 T103.heap ([] : List Addr) := K102'.trans K103 (allS (Or.inr sz_b101) all0)
    obtain ⟨t104, kb104, Nb104, vs104, Es104, Fv104, Fc104, Vb104, cd104, rg104, ln104⟩ := Str_103
    refine own_go (B := T103.setTop (mkF m 14 #[.val (.int p0), .val (.int c0), .val (.int c1), .val (.int c2)] [(.ref b101)])) (fun _ k => st103.trans k) ?_
    obtain ⟨fs, hr, hrun, hended, hW, hsame⟩ := X103.leave (v := some (.ref b101)) (fun h => by rw [Bd.returns] at h; cases h)
    obtain ⟨en1, en2, en3⟩ := State.Since.ended (s := s) (vm₁ := T103.vm) SN103 hW (by show _ ≤ T103.heap.size; exact (Nat.le_refl _)) hsame
    have CRe := CR103.trans (CHv.at (s := s) (vm0 := T103.vm) X103 hZ hEL CH103)
    have CRf : CHr Z own_EL s.vm s.heap T103.vm T103.heap := by rw [hh]; exact CRe
    refine ⟨_, _, retOut X103 hx Bd.returns rfl (Or.inr (Or.inr (Or.inr (Or.inr ⟨rfl, rfl, rfl⟩)))) (hb hby d1_14) hr, hrun, hended, _, _, rfl, ?_, CRf, ⟨_, rfl⟩, en1, en2, en3.mono (by decide) (by decide)⟩
    show Q_rm1 Z zC fm p0 c0 c1 c2 h0 n0 _ T103.heap _
    exact ⟨b101, rfl, N103, K103', sz_b101, (by have q : own_mk p0 c0 c1 c2 = [] := (by simp [own_mk, hc1]); rw [q]; exact (⟨t104, kb104, Nb104, vs104, Es104, Fv104, Fc104, Vb104, cd104, rg104, ln104⟩ : own_Str Z T103.heap b101 []))⟩
  · refine own_go (B := s₁.setTop (mkF m 15 #[.val (.int p0), .val (.int c0), .val (.int c1), .val (.int c2)] [])) (fun _ k => XS.ifYes X0.here hx rfl (pc0 := 1) (pc' := 15) rfl (hb hby d1_1) rfl ((if0 _ _).trans (feq hc1).2) (by decide) (by decide) k) ?_
    refine own_go (B := s₁.setTop (mkF m 16 #[.val (.int p0), .val (.int c0), .val (.int c1), .val (.int c2)] [(.int p0)])) (fun _ k => XS.iloadN X0.here hx rfl (hb hby d1_15) rfl k) ?_
    refine own_go (B := s₁.setTop (mkF m 17 #[.val (.int p0), .val (.int c0), .val (.int c1), .val (.int c2)] [(.int (1 : Int32)), (.int p0)])) (fun _ k => XS.iconst X0.here hx rfl (hb hby d1_16) k) ?_
    by_cases hc17 : p0 = (1 : Int32)
    · refine own_go (B := s₁.setTop (mkF m 20 #[.val (.int p0), .val (.int c0), .val (.int c1), .val (.int c2)] [])) (fun _ k => XS.icmpNo X0.here hx rfl (hb hby d1_17) rfl (teq hc17).2 k) ?_
      obtain ⟨T105, h105, X105, e105, E105, A105, D105, -, st105⟩ := newO X0 hx hZ hown (hw _ (List.mem_of_getElem? (i := 4) rfl)) (hw _ (List.mem_of_getElem? (i := 5) rfl)) (hw _ (List.mem_of_getElem? (i := 6) rfl)) e0 (g := (mkF m 20 #[.val (.int p0), .val (.int c0), .val (.int c1), .val (.int c2)] [])) rfl (hb hby d1_20) (by decide) (by decide)
      obtain ⟨b105, g105⟩ : ∃ z, z = h0.size := ⟨_, rfl⟩
      rw [← g105] at A105 D105 st105
      have g_b105 : n0 ≤ b105 := Nat.le_trans (Nat.le_trans Z0 K0.1) (Nat.le_of_eq g105.symm)
      have sz_b105 : h0.size ≤ b105 := Nat.le_trans K0.1 (Nat.le_of_eq g105.symm)
      have CH105 := CHv.ext E105 CH0
      have CR105 := CR0.trans (CHr.ext E105 CH0)
      have Sf_b105 := Safe.ext E105 CH0 (Safe.new (Nat.le_of_eq g105.symm))
      have O105 := O0.ext E105
      have K105' : Keep h0 h105 ([] : List Addr) := K0.ext E105
      have F_coder_b105 : Fld Z h105 b105 "java/lang/String" "coder" "B" (.int (0 : Int32)) := D105 (Or.inr (hw _ (List.mem_of_getElem? (i := 31) rfl))) (ty := .byte) (by decide)
      have F_value_b105 : Fld Z h105 b105 "java/lang/String" "value" "[B" .null := D105 (Or.inr (hw _ (List.mem_of_getElem? (i := 33) rfl))) (ty := (.array .byte)) (by decide)
      refine own_go (B := T105.setTop (mkF m 23 #[.val (.int p0), .val (.int c0), .val (.int c1), .val (.int c2)] [(.ref b105)])) (st105) ?_
      refine own_go (B := T105.setTop (mkF m 24 #[.val (.int p0), .val (.int c0), .val (.int c1), .val (.int c2)] [(.ref b105), (.ref b105)])) (fun _ k => XS.dup X105.here hx rfl (hb hby d1_23) rfl rfl k) ?_
      refine own_go (B := T105.setTop (mkF m 25 #[.val (.int p0), .val (.int c0), .val (.int c1), .val (.int c2)] [(.int (1 : Int32)), (.ref b105), (.ref b105)])) (fun _ k => XS.iconst X105.here hx rfl (hb hby d1_24) k) ?_
      obtain ⟨T106, h106, k106, X106, e106, E106, A106, st106⟩ := newP X105 hx hZ (hw _ (List.mem_of_getElem? (i := 7) rfl)) e105 (g := (mkF m 25 #[.val (.int p0), .val (.int c0), .val (.int c1), .val (.int c2)] [(.int (1 : Int32)), (.ref b105), (.ref b105)])) rfl (hb hby d1_25) rfl (by decide) (cap := 1) (by decide) (by decide) (by decide) (by decide)
      obtain ⟨b106, g106⟩ : ∃ z, z = h105.size := ⟨_, rfl⟩
      rw [← g106] at A106 st106
      have g_b106 : n0 ≤ b106 := Nat.le_trans (Nat.le_trans Z0 K105'.1) (Nat.le_of_eq g106.symm)
      have sz_b106 : h0.size ≤ b106 := Nat.le_trans K105'.1 (Nat.le_of_eq g106.symm)
      have ne106_1 : b105 ≠ b106 := Nat.ne_of_lt (Nat.lt_of_lt_of_le A105.lt (Nat.le_of_eq g106.symm))
      have CH106 := CHv.ext E106 CH105
      have CR106 := CR105.trans (CHr.ext E106 CH105)
      have Sf_b106 := Safe.ext E106 CH105 (Safe.new (Nat.le_of_eq g106.symm))
      have O106 := O105.ext E106
      have K106' : Keep h0 h106 ([] : List Addr) := K105'.ext E106
      have V_b106 : Arv Z h106 b106 k106 .char (1 : Int32) [(.int (0 : Int32))] (.int (0 : Int32)) := (Arv.new A106 (by decide)).pad (pad_rep [] (.int (0 : Int32)) 1)
      refine own_go (B := T106.setTop (mkF m 27 #[.val (.int p0), .val (.int c0), .val (.int c1), .val (.int c2)] [(.ref b106), (.ref b105), (.ref b105)])) (st106) ?_
      refine own_go (B := T106.setTop (mkF m 28 #[.val (.int p0), .val (.int c0), .val (.int c1), .val (.int c2)] [(.ref b106), (.ref b106), (.ref b105), (.ref b105)])) (fun _ k => XS.dup X106.here hx rfl (hb hby d1_27) rfl rfl k) ?_
      refine own_go (B := T106.setTop (mkF m 29 #[.val (.int p0), .val (.int c0), .val (.int c1), .val (.int c2)] [(.int (0 : Int32)), (.ref b106), (.ref b106), (.ref b105), (.ref b105)])) (fun _ k => XS.iconst X106.here hx rfl (hb hby d1_28) k) ?_
      refine own_go (B := T106.setTop (mkF m 30 #[.val (.int p0), .val (.int c0), .val (.int c1), .val (.int c2)] [(.int c0), (.int (0 : Int32)), (.ref b106), (.ref b106), (.ref b105), (.ref b105)])) (fun _ k => XS.iloadN X106.here hx rfl (hb hby d1_29) rfl k) ?_
      obtain ⟨cl107, Ar107, q107, Sz107, Nn107, Hh107, Gg107⟩ := id V_b106
      have hin107 : ¬ ((0 : Int32) < 0 ∨ cl107.slots.size ≤ ((0 : Int32)).toNatClampNeg) := inb_of Sz107 ⟨by decide, by decide⟩
      obtain ⟨T108, h108, X108, e108, W108, st108⟩ := stC X106 hx hZ e106 Ar107 (j := (0 : Int32)) hin107 (g := (mkF m 30 #[.val (.int p0), .val (.int c0), .val (.int c1), .val (.int c2)] [(.int c0), (.int (0 : Int32)), (.ref b106), (.ref b106), (.ref b105), (.ref b105)])) rfl rfl (hb hby d1_30)
      rw [own_nar (c := c0) r0] at W108
      have V108 := Arv.set Ar107 q107 Sz107 Nn107 Hh107 Gg107 (own_nar (c := c0) r0 ▸ fits_nar_char c0) W108 0 rfl (Nat.le_of_ble_eq_true rfl)
      have CH108 := CHv.wr W108 Sf_b106 CH106
      have CR108 := CR106.trans (CHr.wr W108 Sf_b106 CH106)
      have O108 := O106.wr W108 g_b106
      have N108 := Fr.snoc X108 N0 g_b106
      have K108' : Keep h0 h108 ([] : List Addr) := K106'.wr W108 (Or.inr sz_b106)
      replace V108 : Arv Z h108 b106 k106 .char (1 : Int32) [(.int c0)] (.int (0 : Int32)) := V108
      refine own_go (B := T108.setTop (mkF m 31 #[.val (.int p0), .val (.int c0), .val (.int c1), .val (.int c2)] [(.ref b106), (.ref b105), (.ref b105)])) (st108) ?_
      obtain ⟨_, _, ⟨T109, L109, k109, n109⟩, -, X109, ⟨Lc109, hQ109, l109, y109, z109⟩, st109⟩ := X108.specialBack hx (y := (⟨"java/lang/String", "<init>", "([C)V"⟩ : MethodName)) rfl hown (mvT hZ (hw _ (List.mem_of_getElem? (i := 8) rfl))) (mvT hZ (hw _ (List.mem_of_getElem? (i := 9) rfl))) (mvT hZ (hw _ (List.mem_of_getElem? (i := 10) rfl))) (by decide) (own_newS (W := 1) hZ hw 1 n0 g_b105 (Nat.le_trans Z0 K108'.1) ((A105.ext E106).wr W108) ((F_value_b105.ext E106).other W108 (Or.inl ne106_1)) ((F_coder_b105.ext E106).other W108 (Or.inl ne106_1)) V108 (cs := [c0]) rfl (S_String_COMPACT_STRINGS.ext O108.2) hzC rfl rfl (by decide) (by decide) (fun _ hc => by simp only [List.mem_cons, List.not_mem_nil, or_false] at hc; rcases hc with rfl <;> assumption) (by decide) (by decide)) (g := (mkF m 31 #[.val (.int p0), .val (.int c0), .val (.int c1), .val (.int c2)] [(.ref b106), (.ref b105), (.ref b105)])) rfl (by rw [hml]; rfl) (Steps.refl _) (a := b105) (argsL := [(.ref b106)]) (rest := [(.ref b105)]) (lenOf pd_1 rfl) rfl (by show 2 * 0 + _ ≤ _; exact Nat.le_of_eq rfl) (hb hby d1_31) (fun _ _ => ⟨rfl, e108, (by decide : 2 + 1 ≤ 6), (by decide : 5 + 1 ≤ 12)⟩)
      dsimp only [Pt.U, Pt.locs, Pt.cells, Pt.slots] at X109 l109 y109 z109 st109 hQ109
      subst l109 y109 z109
      obtain ⟨rfl, N109q, K109, Str_109⟩ := hQ109
      have N109 := Fr.app N108 N109q
      have CH109 := CHv.keep K109 (sfS (Safe.wr W108 Sf_b106 CH106 (Safe.ext E106 CH105 Sf_b105)) sf0) CH108
      have CR109 := CR108.trans (CHr.keep K109 (sfS (Safe.wr W108 Sf_b106 CH106 (Safe.ext E106 CH105 Sf_b105)) sf0) CH108)
      have O109 := O108.keep K109 (allS g_b105 all0)
      have K109' : Keep h0 T109.heap ([] : List Addr) := K108'.trans K109 (allS (Or.inr sz_b105) all0)
      obtain ⟨t110, kb110, Nb110, vs110, Es110, Fv110, Fc110, Vb110, cd110, rg110, ln110⟩ := Str_109
      refine own_go (B := T109.setTop (mkF m 34 #[.val (.int p0), .val (.int c0), .val (.int c1), .val (.int c2)] [(.ref b105)])) (fun _ k => st109.trans k) ?_
      obtain ⟨fs, hr, hrun, hended, hW, hsame⟩ := X109.leave (v := some (.ref b105)) (fun h => by rw [Bd.returns] at h; cases h)
      obtain ⟨en1, en2, en3⟩ := State.Since.ended (s := s) (vm₁ := s.vm) S0 hW (by show _ ≤ T109.heap.size; exact (Nat.zero_le _)) hsame
      have CRe := CR109.trans (CHv.at (s := s) (vm0 := s.vm) X109 hZ hEL CH109)
      have CRf : CHr Z own_EL s.vm s.heap T109.vm T109.heap := by rw [hh]; exact CRe
      refine ⟨_, _, retOut X109 hx Bd.returns rfl (Or.inr (Or.inr (Or.inr (Or.inr ⟨rfl, rfl, rfl⟩)))) (hb hby d1_34) hr, hrun, hended, _, _, rfl, ?_, CRf, ⟨_, rfl⟩, en1, en2, en3.mono (by decide) (by decide)⟩
      show Q_rm1 Z zC fm p0 c0 c1 c2 h0 n0 _ T109.heap _
      exact ⟨b105, rfl, N109, K109', sz_b105, (by have q : own_mk p0 c0 c1 c2 = [c0] := (by simp [own_mk, hc1, hc17]); rw [q]; exact (⟨t110, kb110, Nb110, vs110, Es110, Fv110, Fc110, Vb110, cd110, rg110, ln110⟩ : own_Str Z T109.heap b105 [c0]))⟩
    · refine own_go (B := s₁.setTop (mkF m 35 #[.val (.int p0), .val (.int c0), .val (.int c1), .val (.int c2)] [])) (fun _ k => XS.icmpYes X0.here hx rfl (pc0 := 17) (pc' := 35) rfl (hb hby d1_17) rfl (feq hc17).2 (by decide) (by decide) k) ?_
      refine own_go (B := s₁.setTop (mkF m 36 #[.val (.int p0), .val (.int c0), .val (.int c1), .val (.int c2)] [(.int p0)])) (fun _ k => XS.iloadN X0.here hx rfl (hb hby d1_35) rfl k) ?_
      refine own_go (B := s₁.setTop (mkF m 37 #[.val (.int p0), .val (.int c0), .val (.int c1), .val (.int c2)] [(.int (2 : Int32)), (.int p0)])) (fun _ k => XS.iconst X0.here hx rfl (hb hby d1_36) k) ?_
      by_cases hc37 : p0 = (2 : Int32)
      · refine own_go (B := s₁.setTop (mkF m 40 #[.val (.int p0), .val (.int c0), .val (.int c1), .val (.int c2)] [])) (fun _ k => XS.icmpNo X0.here hx rfl (hb hby d1_37) rfl (teq hc37).2 k) ?_
        obtain ⟨T111, h111, X111, e111, E111, A111, D111, -, st111⟩ := newO X0 hx hZ hown (hw _ (List.mem_of_getElem? (i := 4) rfl)) (hw _ (List.mem_of_getElem? (i := 5) rfl)) (hw _ (List.mem_of_getElem? (i := 6) rfl)) e0 (g := (mkF m 40 #[.val (.int p0), .val (.int c0), .val (.int c1), .val (.int c2)] [])) rfl (hb hby d1_40) (by decide) (by decide)
        obtain ⟨b111, g111⟩ : ∃ z, z = h0.size := ⟨_, rfl⟩
        rw [← g111] at A111 D111 st111
        have g_b111 : n0 ≤ b111 := Nat.le_trans (Nat.le_trans Z0 K0.1) (Nat.le_of_eq g111.symm)
        have sz_b111 : h0.size ≤ b111 := Nat.le_trans K0.1 (Nat.le_of_eq g111.symm)
        have CH111 := CHv.ext E111 CH0
        have CR111 := CR0.trans (CHr.ext E111 CH0)
        have Sf_b111 := Safe.ext E111 CH0 (Safe.new (Nat.le_of_eq g111.symm))
        have O111 := O0.ext E111
        have K111' : Keep h0 h111 ([] : List Addr) := K0.ext E111
        have F_coder_b111 : Fld Z h111 b111 "java/lang/String" "coder" "B" (.int (0 : Int32)) := D111 (Or.inr (hw _ (List.mem_of_getElem? (i := 31) rfl))) (ty := .byte) (by decide)
        have F_value_b111 : Fld Z h111 b111 "java/lang/String" "value" "[B" .null := D111 (Or.inr (hw _ (List.mem_of_getElem? (i := 33) rfl))) (ty := (.array .byte)) (by decide)
        refine own_go (B := T111.setTop (mkF m 43 #[.val (.int p0), .val (.int c0), .val (.int c1), .val (.int c2)] [(.ref b111)])) (st111) ?_
        refine own_go (B := T111.setTop (mkF m 44 #[.val (.int p0), .val (.int c0), .val (.int c1), .val (.int c2)] [(.ref b111), (.ref b111)])) (fun _ k => XS.dup X111.here hx rfl (hb hby d1_43) rfl rfl k) ?_
        refine own_go (B := T111.setTop (mkF m 45 #[.val (.int p0), .val (.int c0), .val (.int c1), .val (.int c2)] [(.int (2 : Int32)), (.ref b111), (.ref b111)])) (fun _ k => XS.iconst X111.here hx rfl (hb hby d1_44) k) ?_
        obtain ⟨T112, h112, k112, X112, e112, E112, A112, st112⟩ := newP X111 hx hZ (hw _ (List.mem_of_getElem? (i := 7) rfl)) e111 (g := (mkF m 45 #[.val (.int p0), .val (.int c0), .val (.int c1), .val (.int c2)] [(.int (2 : Int32)), (.ref b111), (.ref b111)])) rfl (hb hby d1_45) rfl (by decide) (cap := 2) (by decide) (by decide) (by decide) (by decide)
        obtain ⟨b112, g112⟩ : ∃ z, z = h111.size := ⟨_, rfl⟩
        rw [← g112] at A112 st112
        have g_b112 : n0 ≤ b112 := Nat.le_trans (Nat.le_trans Z0 K111'.1) (Nat.le_of_eq g112.symm)
        have sz_b112 : h0.size ≤ b112 := Nat.le_trans K111'.1 (Nat.le_of_eq g112.symm)
        have ne112_1 : b111 ≠ b112 := Nat.ne_of_lt (Nat.lt_of_lt_of_le A111.lt (Nat.le_of_eq g112.symm))
        have CH112 := CHv.ext E112 CH111
        have CR112 := CR111.trans (CHr.ext E112 CH111)
        have Sf_b112 := Safe.ext E112 CH111 (Safe.new (Nat.le_of_eq g112.symm))
        have O112 := O111.ext E112
        have K112' : Keep h0 h112 ([] : List Addr) := K111'.ext E112
        have V_b112 : Arv Z h112 b112 k112 .char (2 : Int32) [(.int (0 : Int32)), (.int (0 : Int32))] (.int (0 : Int32)) := (Arv.new A112 (by decide)).pad (pad_rep [] (.int (0 : Int32)) 2)
        refine own_go (B := T112.setTop (mkF m 47 #[.val (.int p0), .val (.int c0), .val (.int c1), .val (.int c2)] [(.ref b112), (.ref b111), (.ref b111)])) (st112) ?_
        refine own_go (B := T112.setTop (mkF m 48 #[.val (.int p0), .val (.int c0), .val (.int c1), .val (.int c2)] [(.ref b112), (.ref b112), (.ref b111), (.ref b111)])) (fun _ k => XS.dup X112.here hx rfl (hb hby d1_47) rfl rfl k) ?_
        refine own_go (B := T112.setTop (mkF m 49 #[.val (.int p0), .val (.int c0), .val (.int c1), .val (.int c2)] [(.int (0 : Int32)), (.ref b112), (.ref b112), (.ref b111), (.ref b111)])) (fun _ k => XS.iconst X112.here hx rfl (hb hby d1_48) k) ?_
        refine own_go (B := T112.setTop (mkF m 50 #[.val (.int p0), .val (.int c0), .val (.int c1), .val (.int c2)] [(.int c0), (.int (0 : Int32)), (.ref b112), (.ref b112), (.ref b111), (.ref b111)])) (fun _ k => XS.iloadN X112.here hx rfl (hb hby d1_49) rfl k) ?_
        obtain ⟨cl113, Ar113, q113, Sz113, Nn113, Hh113, Gg113⟩ := id V_b112
        have hin113 : ¬ ((0 : Int32) < 0 ∨ cl113.slots.size ≤ ((0 : Int32)).toNatClampNeg) := inb_of Sz113 ⟨by decide, by decide⟩
        obtain ⟨T114, h114, X114, e114, W114, st114⟩ := stC X112 hx hZ e112 Ar113 (j := (0 : Int32)) hin113 (g := (mkF m 50 #[.val (.int p0), .val (.int c0), .val (.int c1), .val (.int c2)] [(.int c0), (.int (0 : Int32)), (.ref b112), (.ref b112), (.ref b111), (.ref b111)])) rfl rfl (hb hby d1_50)
        rw [own_nar (c := c0) r0] at W114
        have V114 := Arv.set Ar113 q113 Sz113 Nn113 Hh113 Gg113 (own_nar (c := c0) r0 ▸ fits_nar_char c0) W114 0 rfl (Nat.le_of_ble_eq_true rfl)
        have CH114 := CHv.wr W114 Sf_b112 CH112
        have CR114 := CR112.trans (CHr.wr W114 Sf_b112 CH112)
        have O114 := O112.wr W114 g_b112
        have N114 := Fr.snoc X114 N0 g_b112
        have K114' : Keep h0 h114 ([] : List Addr) := K112'.wr W114 (Or.inr sz_b112)
        replace V114 : Arv Z h114 b112 k112 .char (2 : Int32) [(.int c0), (.int (0 : Int32))] (.int (0 : Int32)) := V114
        refine own_go (B := T114.setTop (mkF m 51 #[.val (.int p0), .val (.int c0), .val (.int c1), .val (.int c2)] [(.ref b112), (.ref b111), (.ref b111)])) (st114) ?_
        refine own_go (B := T114.setTop (mkF m 52 #[.val (.int p0), .val (.int c0), .val (.int c1), .val (.int c2)] [(.ref b112), (.ref b112), (.ref b111), (.ref b111)])) (fun _ k => XS.dup X114.here hx rfl (hb hby d1_51) rfl rfl k) ?_
        refine own_go (B := T114.setTop (mkF m 53 #[.val (.int p0), .val (.int c0), .val (.int c1), .val (.int c2)] [(.int (1 : Int32)), (.ref b112), (.ref b112), (.ref b111), (.ref b111)])) (fun _ k => XS.iconst X114.here hx rfl (hb hby d1_52) k) ?_
        refine own_go (B := T114.setTop (mkF m 54 #[.val (.int p0), .val (.int c0), .val (.int c1), .val (.int c2)] [(.int c1), (.int (1 : Int32)), (.ref b112), (.ref b112), (.ref b111), (.ref b111)])) (fun _ k => XS.iloadN X114.here hx rfl (hb hby d1_53) rfl k) ?_
        obtain ⟨cl115, Ar115, q115, Sz115, Nn115, Hh115, Gg115⟩ := id V114
        have hin115 : ¬ ((1 : Int32) < 0 ∨ cl115.slots.size ≤ ((1 : Int32)).toNatClampNeg) := inb_of Sz115 ⟨by decide, by decide⟩
        obtain ⟨T116, h116, X116, e116, W116, st116⟩ := stC X114 hx hZ e114 Ar115 (j := (1 : Int32)) hin115 (g := (mkF m 54 #[.val (.int p0), .val (.int c0), .val (.int c1), .val (.int c2)] [(.int c1), (.int (1 : Int32)), (.ref b112), (.ref b112), (.ref b111), (.ref b111)])) rfl rfl (hb hby d1_54)
        rw [own_nar (c := c1) r1] at W116
        have V116 := Arv.set Ar115 q115 Sz115 Nn115 Hh115 Gg115 (own_nar (c := c1) r1 ▸ fits_nar_char c1) W116 1 rfl (Nat.le_of_ble_eq_true rfl)
        have CH116 := CHv.wr W116 (Safe.wr W114 Sf_b112 CH112 Sf_b112) CH114
        have CR116 := CR114.trans (CHr.wr W116 (Safe.wr W114 Sf_b112 CH112 Sf_b112) CH114)
        have O116 := O114.wr W116 g_b112
        have N116 := Fr.snoc X116 N114 g_b112
        have K116' : Keep h0 h116 ([] : List Addr) := K114'.wr W116 (Or.inr sz_b112)
        replace V116 : Arv Z h116 b112 k112 .char (2 : Int32) [(.int c0), (.int c1)] (.int (0 : Int32)) := V116
        refine own_go (B := T116.setTop (mkF m 55 #[.val (.int p0), .val (.int c0), .val (.int c1), .val (.int c2)] [(.ref b112), (.ref b111), (.ref b111)])) (st116) ?_
        obtain ⟨_, _, ⟨T117, L117, k117, n117⟩, -, X117, ⟨Lc117, hQ117, l117, y117, z117⟩, st117⟩ := X116.specialBack hx (y := (⟨"java/lang/String", "<init>", "([C)V"⟩ : MethodName)) rfl hown (mvT hZ (hw _ (List.mem_of_getElem? (i := 8) rfl))) (mvT hZ (hw _ (List.mem_of_getElem? (i := 9) rfl))) (mvT hZ (hw _ (List.mem_of_getElem? (i := 10) rfl))) (by decide) (own_newS (W := 1) hZ hw 2 n0 g_b111 (Nat.le_trans Z0 K116'.1) (((A111.ext E112).wr W114).wr W116) (((F_value_b111.ext E112).other W114 (Or.inl ne112_1)).other W116 (Or.inl ne112_1)) (((F_coder_b111.ext E112).other W114 (Or.inl ne112_1)).other W116 (Or.inl ne112_1)) V116 (cs := [c0, c1]) rfl (S_String_COMPACT_STRINGS.ext O116.2) hzC rfl rfl (by decide) (by decide) (fun _ hc => by simp only [List.mem_cons, List.not_mem_nil, or_false] at hc; rcases hc with rfl | rfl <;> assumption) (by decide) (by decide)) (g := (mkF m 55 #[.val (.int p0), .val (.int c0), .val (.int c1), .val (.int c2)] [(.ref b112), (.ref b111), (.ref b111)])) rfl (by rw [hml]; rfl) (Steps.refl _) (a := b111) (argsL := [(.ref b112)]) (rest := [(.ref b111)]) (lenOf pd_1 rfl) rfl (by show 2 * 0 + _ ≤ _; exact Nat.le_of_eq rfl) (hb hby d1_55) (fun _ _ => ⟨rfl, e116, (by decide : 2 + 1 ≤ 6), (by decide : 6 + 2 ≤ 12)⟩)
        dsimp only [Pt.U, Pt.locs, Pt.cells, Pt.slots] at X117 l117 y117 z117 st117 hQ117
        subst l117 y117 z117
        obtain ⟨rfl, N117q, K117, Str_117⟩ := hQ117
        have N117 := Fr.app N116 N117q
        have CH117 := CHv.keep K117 (sfS (Safe.wr W116 (Safe.wr W114 Sf_b112 CH112 Sf_b112) CH114 (Safe.wr W114 Sf_b112 CH112 (Safe.ext E112 CH111 Sf_b111))) sf0) CH116
        have CR117 := CR116.trans (CHr.keep K117 (sfS (Safe.wr W116 (Safe.wr W114 Sf_b112 CH112 Sf_b112) CH114 (Safe.wr W114 Sf_b112 CH112 (Safe.ext E112 CH111 Sf_b111))) sf0) CH116)
        have O117 := O116.keep K117 (allS g_b111 all0)
        have K117' : Keep h0 T117.heap ([] : List Addr) := K116'.trans K117 (allS (Or.inr sz_b111) all0)
        obtain ⟨t118, kb118, Nb118, vs118, Es118, Fv118, Fc118, Vb118, cd118, rg118, ln118⟩ := Str_117
        refine own_go (B := T117.setTop (mkF m 58 #[.val (.int p0), .val (.int c0), .val (.int c1), .val (.int c2)] [(.ref b111)])) (fun _ k => st117.trans k) ?_
        obtain ⟨fs, hr, hrun, hended, hW, hsame⟩ := X117.leave (v := some (.ref b111)) (fun h => by rw [Bd.returns] at h; cases h)
        obtain ⟨en1, en2, en3⟩ := State.Since.ended (s := s) (vm₁ := s.vm) S0 hW (by show _ ≤ T117.heap.size; exact (Nat.zero_le _)) hsame
        have CRe := CR117.trans (CHv.at (s := s) (vm0 := s.vm) X117 hZ hEL CH117)
        have CRf : CHr Z own_EL s.vm s.heap T117.vm T117.heap := by rw [hh]; exact CRe
        refine ⟨_, _, retOut X117 hx Bd.returns rfl (Or.inr (Or.inr (Or.inr (Or.inr ⟨rfl, rfl, rfl⟩)))) (hb hby d1_58) hr, hrun, hended, _, _, rfl, ?_, CRf, ⟨_, rfl⟩, en1, en2, en3.mono (by decide) (by decide)⟩
        show Q_rm1 Z zC fm p0 c0 c1 c2 h0 n0 _ T117.heap _
        exact ⟨b111, rfl, N117, K117', sz_b111, (by have q : own_mk p0 c0 c1 c2 = [c0, c1] := (by simp [own_mk, hc1, hc17, hc37]); rw [q]; exact (⟨t118, kb118, Nb118, vs118, Es118, Fv118, Fc118, Vb118, cd118, rg118, ln118⟩ : own_Str Z T117.heap b111 [c0, c1]))⟩
      · refine own_go (B := s₁.setTop (mkF m 59 #[.val (.int p0), .val (.int c0), .val (.int c1), .val (.int c2)] [])) (fun _ k => XS.icmpYes X0.here hx rfl (pc0 := 37) (pc' := 59) rfl (hb hby d1_37) rfl (feq hc37).2 (by decide) (by decide) k) ?_
        obtain ⟨T119, h119, X119, e119, E119, A119, D119, -, st119⟩ := newO X0 hx hZ hown (hw _ (List.mem_of_getElem? (i := 4) rfl)) (hw _ (List.mem_of_getElem? (i := 5) rfl)) (hw _ (List.mem_of_getElem? (i := 6) rfl)) e0 (g := (mkF m 59 #[.val (.int p0), .val (.int c0), .val (.int c1), .val (.int c2)] [])) rfl (hb hby d1_59) (by decide) (by decide)
        obtain ⟨b119, g119⟩ : ∃ z, z = h0.size := ⟨_, rfl⟩
        rw [← g119] at A119 D119 st119
        have g_b119 : n0 ≤ b119 := Nat.le_trans (Nat.le_trans Z0 K0.1) (Nat.le_of_eq g119.symm)
        have sz_b119 : h0.size ≤ b119 := Nat.le_trans K0.1 (Nat.le_of_eq g119.symm)
        have CH119 := CHv.ext E119 CH0
        have CR119 := CR0.trans (CHr.ext E119 CH0)
        have Sf_b119 := Safe.ext E119 CH0 (Safe.new (Nat.le_of_eq g119.symm))
        have O119 := O0.ext E119
        have K119' : Keep h0 h119 ([] : List Addr) := K0.ext E119
        have F_coder_b119 : Fld Z h119 b119 "java/lang/String" "coder" "B" (.int (0 : Int32)) := D119 (Or.inr (hw _ (List.mem_of_getElem? (i := 31) rfl))) (ty := .byte) (by decide)
        have F_value_b119 : Fld Z h119 b119 "java/lang/String" "value" "[B" .null := D119 (Or.inr (hw _ (List.mem_of_getElem? (i := 33) rfl))) (ty := (.array .byte)) (by decide)
        refine own_go (B := T119.setTop (mkF m 62 #[.val (.int p0), .val (.int c0), .val (.int c1), .val (.int c2)] [(.ref b119)])) (st119) ?_
        refine own_go (B := T119.setTop (mkF m 63 #[.val (.int p0), .val (.int c0), .val (.int c1), .val (.int c2)] [(.ref b119), (.ref b119)])) (fun _ k => XS.dup X119.here hx rfl (hb hby d1_62) rfl rfl k) ?_
        refine own_go (B := T119.setTop (mkF m 64 #[.val (.int p0), .val (.int c0), .val (.int c1), .val (.int c2)] [(.int (3 : Int32)), (.ref b119), (.ref b119)])) (fun _ k => XS.iconst X119.here hx rfl (hb hby d1_63) k) ?_
        obtain ⟨T120, h120, k120, X120, e120, E120, A120, st120⟩ := newP X119 hx hZ (hw _ (List.mem_of_getElem? (i := 7) rfl)) e119 (g := (mkF m 64 #[.val (.int p0), .val (.int c0), .val (.int c1), .val (.int c2)] [(.int (3 : Int32)), (.ref b119), (.ref b119)])) rfl (hb hby d1_64) rfl (by decide) (cap := 3) (by decide) (by decide) (by decide) (by decide)
        obtain ⟨b120, g120⟩ : ∃ z, z = h119.size := ⟨_, rfl⟩
        rw [← g120] at A120 st120
        have g_b120 : n0 ≤ b120 := Nat.le_trans (Nat.le_trans Z0 K119'.1) (Nat.le_of_eq g120.symm)
        have sz_b120 : h0.size ≤ b120 := Nat.le_trans K119'.1 (Nat.le_of_eq g120.symm)
        have ne120_1 : b119 ≠ b120 := Nat.ne_of_lt (Nat.lt_of_lt_of_le A119.lt (Nat.le_of_eq g120.symm))
        have CH120 := CHv.ext E120 CH119
        have CR120 := CR119.trans (CHr.ext E120 CH119)
        have Sf_b120 := Safe.ext E120 CH119 (Safe.new (Nat.le_of_eq g120.symm))
        have O120 := O119.ext E120
        have K120' : Keep h0 h120 ([] : List Addr) := K119'.ext E120
        have V_b120 : Arv Z h120 b120 k120 .char (3 : Int32) [(.int (0 : Int32)), (.int (0 : Int32)), (.int (0 : Int32))] (.int (0 : Int32)) := (Arv.new A120 (by decide)).pad (pad_rep [] (.int (0 : Int32)) 3)
        refine own_go (B := T120.setTop (mkF m 66 #[.val (.int p0), .val (.int c0), .val (.int c1), .val (.int c2)] [(.ref b120), (.ref b119), (.ref b119)])) (st120) ?_
        refine own_go (B := T120.setTop (mkF m 67 #[.val (.int p0), .val (.int c0), .val (.int c1), .val (.int c2)] [(.ref b120), (.ref b120), (.ref b119), (.ref b119)])) (fun _ k => XS.dup X120.here hx rfl (hb hby d1_66) rfl rfl k) ?_
        refine own_go (B := T120.setTop (mkF m 68 #[.val (.int p0), .val (.int c0), .val (.int c1), .val (.int c2)] [(.int (0 : Int32)), (.ref b120), (.ref b120), (.ref b119), (.ref b119)])) (fun _ k => XS.iconst X120.here hx rfl (hb hby d1_67) k) ?_
        refine own_go (B := T120.setTop (mkF m 69 #[.val (.int p0), .val (.int c0), .val (.int c1), .val (.int c2)] [(.int c0), (.int (0 : Int32)), (.ref b120), (.ref b120), (.ref b119), (.ref b119)])) (fun _ k => XS.iloadN X120.here hx rfl (hb hby d1_68) rfl k) ?_
        obtain ⟨cl121, Ar121, q121, Sz121, Nn121, Hh121, Gg121⟩ := id V_b120
        have hin121 : ¬ ((0 : Int32) < 0 ∨ cl121.slots.size ≤ ((0 : Int32)).toNatClampNeg) := inb_of Sz121 ⟨by decide, by decide⟩
        obtain ⟨T122, h122, X122, e122, W122, st122⟩ := stC X120 hx hZ e120 Ar121 (j := (0 : Int32)) hin121 (g := (mkF m 69 #[.val (.int p0), .val (.int c0), .val (.int c1), .val (.int c2)] [(.int c0), (.int (0 : Int32)), (.ref b120), (.ref b120), (.ref b119), (.ref b119)])) rfl rfl (hb hby d1_69)
        rw [own_nar (c := c0) r0] at W122
        have V122 := Arv.set Ar121 q121 Sz121 Nn121 Hh121 Gg121 (own_nar (c := c0) r0 ▸ fits_nar_char c0) W122 0 rfl (Nat.le_of_ble_eq_true rfl)
        have CH122 := CHv.wr W122 Sf_b120 CH120
        have CR122 := CR120.trans (CHr.wr W122 Sf_b120 CH120)
        have O122 := O120.wr W122 g_b120
        have N122 := Fr.snoc X122 N0 g_b120
        have K122' : Keep h0 h122 ([] : List Addr) := K120'.wr W122 (Or.inr sz_b120)
        replace V122 : Arv Z h122 b120 k120 .char (3 : Int32) [(.int c0), (.int (0 : Int32)), (.int (0 : Int32))] (.int (0 : Int32)) := V122
        refine own_go (B := T122.setTop (mkF m 70 #[.val (.int p0), .val (.int c0), .val (.int c1), .val (.int c2)] [(.ref b120), (.ref b119), (.ref b119)])) (st122) ?_
        refine own_go (B := T122.setTop (mkF m 71 #[.val (.int p0), .val (.int c0), .val (.int c1), .val (.int c2)] [(.ref b120), (.ref b120), (.ref b119), (.ref b119)])) (fun _ k => XS.dup X122.here hx rfl (hb hby d1_70) rfl rfl k) ?_
        refine own_go (B := T122.setTop (mkF m 72 #[.val (.int p0), .val (.int c0), .val (.int c1), .val (.int c2)] [(.int (1 : Int32)), (.ref b120), (.ref b120), (.ref b119), (.ref b119)])) (fun _ k => XS.iconst X122.here hx rfl (hb hby d1_71) k) ?_
        refine own_go (B := T122.setTop (mkF m 73 #[.val (.int p0), .val (.int c0), .val (.int c1), .val (.int c2)] [(.int c1), (.int (1 : Int32)), (.ref b120), (.ref b120), (.ref b119), (.ref b119)])) (fun _ k => XS.iloadN X122.here hx rfl (hb hby d1_72) rfl k) ?_
        obtain ⟨cl123, Ar123, q123, Sz123, Nn123, Hh123, Gg123⟩ := id V122
        have hin123 : ¬ ((1 : Int32) < 0 ∨ cl123.slots.size ≤ ((1 : Int32)).toNatClampNeg) := inb_of Sz123 ⟨by decide, by decide⟩
        obtain ⟨T124, h124, X124, e124, W124, st124⟩ := stC X122 hx hZ e122 Ar123 (j := (1 : Int32)) hin123 (g := (mkF m 73 #[.val (.int p0), .val (.int c0), .val (.int c1), .val (.int c2)] [(.int c1), (.int (1 : Int32)), (.ref b120), (.ref b120), (.ref b119), (.ref b119)])) rfl rfl (hb hby d1_73)
        rw [own_nar (c := c1) r1] at W124
        have V124 := Arv.set Ar123 q123 Sz123 Nn123 Hh123 Gg123 (own_nar (c := c1) r1 ▸ fits_nar_char c1) W124 1 rfl (Nat.le_of_ble_eq_true rfl)
        have CH124 := CHv.wr W124 (Safe.wr W122 Sf_b120 CH120 Sf_b120) CH122
        have CR124 := CR122.trans (CHr.wr W124 (Safe.wr W122 Sf_b120 CH120 Sf_b120) CH122)
        have O124 := O122.wr W124 g_b120
        have N124 := Fr.snoc X124 N122 g_b120
        have K124' : Keep h0 h124 ([] : List Addr) := K122'.wr W124 (Or.inr sz_b120)
        replace V124 : Arv Z h124 b120 k120 .char (3 : Int32) [(.int c0), (.int c1), (.int (0 : Int32))] (.int (0 : Int32)) := V124
        refine own_go (B := T124.setTop (mkF m 74 #[.val (.int p0), .val (.int c0), .val (.int c1), .val (.int c2)] [(.ref b120), (.ref b119), (.ref b119)])) (st124) ?_
        refine own_go (B := T124.setTop (mkF m 75 #[.val (.int p0), .val (.int c0), .val (.int c1), .val (.int c2)] [(.ref b120), (.ref b120), (.ref b119), (.ref b119)])) (fun _ k => XS.dup X124.here hx rfl (hb hby d1_74) rfl rfl k) ?_
        refine own_go (B := T124.setTop (mkF m 76 #[.val (.int p0), .val (.int c0), .val (.int c1), .val (.int c2)] [(.int (2 : Int32)), (.ref b120), (.ref b120), (.ref b119), (.ref b119)])) (fun _ k => XS.iconst X124.here hx rfl (hb hby d1_75) k) ?_
        refine own_go (B := T124.setTop (mkF m 77 #[.val (.int p0), .val (.int c0), .val (.int c1), .val (.int c2)] [(.int c2), (.int (2 : Int32)), (.ref b120), (.ref b120), (.ref b119), (.ref b119)])) (fun _ k => XS.iloadN X124.here hx rfl (hb hby d1_76) rfl k) ?_
        obtain ⟨cl125, Ar125, q125, Sz125, Nn125, Hh125, Gg125⟩ := id V124
        have hin125 : ¬ ((2 : Int32) < 0 ∨ cl125.slots.size ≤ ((2 : Int32)).toNatClampNeg) := inb_of Sz125 ⟨by decide, by decide⟩
        obtain ⟨T126, h126, X126, e126, W126, st126⟩ := stC X124 hx hZ e124 Ar125 (j := (2 : Int32)) hin125 (g := (mkF m 77 #[.val (.int p0), .val (.int c0), .val (.int c1), .val (.int c2)] [(.int c2), (.int (2 : Int32)), (.ref b120), (.ref b120), (.ref b119), (.ref b119)])) rfl rfl (hb hby d1_77)
        rw [own_nar (c := c2) r2] at W126
        have V126 := Arv.set Ar125 q125 Sz125 Nn125 Hh125 Gg125 (own_nar (c := c2) r2 ▸ fits_nar_char c2) W126 2 rfl (Nat.le_of_ble_eq_true rfl)
        have CH126 := CHv.wr W126 (Safe.wr W124 (Safe.wr W122 Sf_b120 CH120 Sf_b120) CH122 (Safe.wr W122 Sf_b120 CH120 Sf_b120)) CH124
        have CR126 := CR124.trans (CHr.wr W126 (Safe.wr W124 (Safe.wr W122 Sf_b120 CH120 Sf_b120) CH122 (Safe.wr W122 Sf_b120 CH120 Sf_b120)) CH124)
        have O126 := O124.wr W126 g_b120
        have N126 := Fr.snoc X126 N124 g_b120
        have K126' : Keep h0 h126 ([] : List Addr) := K124'.wr W126 (Or.inr sz_b120)
        replace V126 : Arv Z h126 b120 k120 .char (3 : Int32) [(.int c0), (.int c1), (.int c2)] (.int (0 : Int32)) := V126
        refine own_go (B := T126.setTop (mkF m 78 #[.val (.int p0), .val (.int c0), .val (.int c1), .val (.int c2)] [(.ref b120), (.ref b119), (.ref b119)])) (st126) ?_
        obtain ⟨_, _, ⟨T127, L127, k127, n127⟩, -, X127, ⟨Lc127, hQ127, l127, y127, z127⟩, st127⟩ := X126.specialBack hx (y := (⟨"java/lang/String", "<init>", "([C)V"⟩ : MethodName)) rfl hown (mvT hZ (hw _ (List.mem_of_getElem? (i := 8) rfl))) (mvT hZ (hw _ (List.mem_of_getElem? (i := 9) rfl))) (mvT hZ (hw _ (List.mem_of_getElem? (i := 10) rfl))) (by decide) (own_newS (W := 1) hZ hw 3 n0 g_b119 (Nat.le_trans Z0 K126'.1) ((((A119.ext E120).wr W122).wr W124).wr W126) ((((F_value_b119.ext E120).other W122 (Or.inl ne120_1)).other W124 (Or.inl ne120_1)).other W126 (Or.inl ne120_1)) ((((F_coder_b119.ext E120).other W122 (Or.inl ne120_1)).other W124 (Or.inl ne120_1)).other W126 (Or.inl ne120_1)) V126 (cs := [c0, c1, c2]) rfl (S_String_COMPACT_STRINGS.ext O126.2) hzC rfl rfl (by decide) (by decide) (fun _ hc => by simp only [List.mem_cons, List.not_mem_nil, or_false] at hc; rcases hc with rfl | rfl | rfl <;> assumption) (by decide) (by decide)) (g := (mkF m 78 #[.val (.int p0), .val (.int c0), .val (.int c1), .val (.int c2)] [(.ref b120), (.ref b119), (.ref b119)])) rfl (by rw [hml]; rfl) (Steps.refl _) (a := b119) (argsL := [(.ref b120)]) (rest := [(.ref b119)]) (lenOf pd_1 rfl) rfl (by show 2 * 0 + _ ≤ _; exact Nat.le_of_eq rfl) (hb hby d1_78) (fun _ _ => ⟨rfl, e126, (by decide : 2 + 1 ≤ 6), (by decide : 7 + 3 ≤ 12)⟩)
        dsimp only [Pt.U, Pt.locs, Pt.cells, Pt.slots] at X127 l127 y127 z127 st127 hQ127
        subst l127 y127 z127
        obtain ⟨rfl, N127q, K127, Str_127⟩ := hQ127
        have N127 := Fr.app N126 N127q
        have CH127 := CHv.keep K127 (sfS (Safe.wr W126 (Safe.wr W124 (Safe.wr W122 Sf_b120 CH120 Sf_b120) CH122 (Safe.wr W122 Sf_b120 CH120 Sf_b120)) CH124 (Safe.wr W124 (Safe.wr W122 Sf_b120 CH120 Sf_b120) CH122 (Safe.wr W122 Sf_b120 CH120 (Safe.ext E120 CH119 Sf_b119)))) sf0) CH126
        have CR127 := CR126.trans (CHr.keep K127 (sfS (Safe.wr W126 (Safe.wr W124 (Safe.wr W122 Sf_b120 CH120 Sf_b120) CH122 (Safe.wr W122 Sf_b120 CH120 Sf_b120)) CH124 (Safe.wr W124 (Safe.wr W122 Sf_b120 CH120 Sf_b120) CH122 (Safe.wr W122 Sf_b120 CH120 (Safe.ext E120 CH119 Sf_b119)))) sf0) CH126)
        have O127 := O126.keep K127 (allS g_b119 all0)
        have K127' : Keep h0 T127.heap ([] : List Addr) := K126'.trans K127 (allS (Or.inr sz_b119) all0)
        obtain ⟨t128, kb128, Nb128, vs128, Es128, Fv128, Fc128, Vb128, cd128, rg128, ln128⟩ := Str_127
        refine own_go (B := T127.setTop (mkF m 81 #[.val (.int p0), .val (.int c0), .val (.int c1), .val (.int c2)] [(.ref b119)])) (fun _ k => st127.trans k) ?_
        obtain ⟨fs, hr, hrun, hended, hW, hsame⟩ := X127.leave (v := some (.ref b119)) (fun h => by rw [Bd.returns] at h; cases h)
        obtain ⟨en1, en2, en3⟩ := State.Since.ended (s := s) (vm₁ := s.vm) S0 hW (by show _ ≤ T127.heap.size; exact (Nat.zero_le _)) hsame
        have CRe := CR127.trans (CHv.at (s := s) (vm0 := s.vm) X127 hZ hEL CH127)
        have CRf : CHr Z own_EL s.vm s.heap T127.vm T127.heap := by rw [hh]; exact CRe
        refine ⟨_, _, retOut X127 hx Bd.returns rfl (Or.inr (Or.inr (Or.inr (Or.inr ⟨rfl, rfl, rfl⟩)))) (hb hby d1_81) hr, hrun, hended, _, _, rfl, ?_, CRf, ⟨_, rfl⟩, en1, en2, en3.mono (by decide) (by decide)⟩
        show Q_rm1 Z zC fm p0 c0 c1 c2 h0 n0 _ T127.heap _
        exact ⟨b119, rfl, N127, K127', sz_b119, (by have q : own_mk p0 c0 c1 c2 = [c0, c1, c2] := (by simp [own_mk, hc1, hc17, hc37]); rw [q]; exact (⟨t128, kb128, Nb128, vs128, Es128, Fv128, Fc128, Vb128, cd128, rg128, ln128⟩ : own_Str Z T127.heap b119 [c0, c1, c2]))⟩
theorem d8_0 : decode prog_34_method_1_code 0 = .ok (.aload_n 0, 1) := by decide +kernel
theorem d8_1 : decode prog_34_method_1_code 1 = .ok (.invokespecial 1, 3) := by decide +kernel
theorem d8_4 : decode prog_34_method_1_code 4 = .ok (.aload_n 0, 1) := by decide +kernel
theorem d8_5 : decode prog_34_method_1_code 5 = .ok (.aload_n 1, 1) := by decide +kernel
theorem d8_6 : decode prog_34_method_1_code 6 = .ok (.putfield 7, 3) := by decide +kernel
theorem d8_9 : decode prog_34_method_1_code 9 = .ok (.return_, 1) := by decide +kernel
theorem pn_8 : plainName "com/example/facts_from_rules/factsfromrules/Variable" = true := by first | (simp [plainName, overriddenIn]; done) | decide +kernel
theorem ef_rm8 (m : MethodId) (a1 : Addr) (a2 : Addr) : entryFrame m #[(.ref a1), (.ref a2)] 2 = mkF m 0 #[.val (.ref a1), .val (.ref a2)] [] := by first | (simp [entryFrame, mkF, argsToLocals, Value.category]; done) | rfl
def Q_rm8 (Z : State) (zC : Int32) (fm : Value) (a1 : Addr) (a2 : Addr) (h0 : Heap) (n0 : Nat) (v : Option Value) (h : Heap) (L : List Loc) : Prop := v = none ∧ Fr n0 L ∧ Keep h0 h [a1] ∧ Fld Z h a1 "com/example/facts_from_rules/factsfromrules/Variable" "name" "Ljava/lang/String;" (.ref a2)
set_option maxRecDepth 65536 in
set_option maxHeartbeats 40000000 in
theorem rm8 (l : Launch) (Z : State) (a0 : Array Value) (hw : ∀ d ∈ tables_1, d.before a0 Z = true) (ws : List Jvm.Cond) (zC : Int32) (fm : Value) (G : own_G Z zC fm) (a1 : Addr) (a2 : Addr) (h0 : Heap) (n0 : Nat) (Z0 : n0 ≤ h0.size) (O0 : Old Z n0 h0) (E1 : Exa Z h0 a1 "com/example/facts_from_rules/factsfromrules/Variable") (F1 : Fld Z h0 a1 "com/example/facts_from_rules/factsfromrules/Variable" "name" "Ljava/lang/String;" .null) (g1 : n0 ≤ a1) :
    MetFree l (⟨"com/example/facts_from_rules/factsfromrules/Variable", "<init>", "(Ljava/lang/String;)V"⟩ : MethodName) (head1 (Jvm.Cond.code (⟨"com/example/facts_from_rules/factsfromrules/Variable", "<init>", "(Ljava/lang/String;)V"⟩ : MethodName) prog_34_method_1_code 2 none :: ws) ({ frames := 1, cells := 0, slots := 0, locals := 12 } : Room)) (fun a U => a = #[(.ref a1), (.ref a2)] ∧ Z.Warmed39 U.vm ∧ U.heap = h0) (fun _ _ _ _ _ => True) (fun _ U o U' => ∃ v L, o = .returned v ∧ Q_rm8 Z zC fm a1 a2 h0 n0 v U'.heap L ∧ FrameEnd U o U' L ({ frames := 1, cells := 0, slots := 0, locals := 12 } : Room).cells ({ frames := 1, cells := 0, slots := 0, locals := 12 } : Room).slots) := by
  refine MetFree.of_bodySF (plainFor_of_name pn_8) hisR ?_
  intro p e s m args below meth c s₁ Bd hml0 hP hK
  obtain ⟨rfl, hZ, hh⟩ := hP
  have hx := Bd.exec
  have hby := Bd.bytes
  have hml : c.maxLocals = 2 := hml0
  have hown : s.vm.findClass "com/example/facts_from_rules/factsfromrules/Variable" = some m.cls := findClass_of_methodNamed Bd.named
  have hnm := (name_of_methodNamed Bd.named Bd.method).1
  have X0 : Stand p l e ({ frames := 1, cells := 0, slots := 0, locals := 12 } : Room) s m #[(.ref a1), (.ref a2)] below meth c s₁ [] 0 0 := Stand.of_body Bd
  have e0 : s₁.heap = h0 := by rw [← hh, Bd.state]; rfl
  have N0 := Fr.nil n0
  have K0 := Keep.refl h0 ([a1] : List Addr)
  have G_ := G
  obtain ⟨S_String_COMPACT_STRINGS, hzC, S_Preconditions_SIOOBE_FORMATTER, hfm, G_end⟩ := G_
  change own_Go p e below _ _
  refine own_go (B := s₁.setTop (mkF m 0 #[.val (.ref a1), .val (.ref a2)] [])) (fun _ k => castTop (ef_rm8 m a1 a2) k) ?_
  refine own_go (B := s₁.setTop (mkF m 1 #[.val (.ref a1), .val (.ref a2)] [(.ref a1)])) (fun _ k => XS.aloadN X0.here hx rfl (hb hby d8_0) rfl rfl k) ?_
  obtain ⟨T101, X101, e101, st101⟩ := initO X0 hx hZ hown (hw _ (List.mem_of_getElem? (i := 43) rfl)) (hw _ (List.mem_of_getElem? (i := 16) rfl)) (hw _ (List.mem_of_getElem? (i := 17) rfl)) e0 (g := (mkF m 1 #[.val (.ref a1), .val (.ref a2)] [(.ref a1)])) rfl (by rw [hml]; rfl) rfl (hb hby d8_1) (by decide) (W := 0) (by show 2 * 0 + _ ≤ _; exact Nat.le_of_eq rfl) (by decide)
  refine own_go (B := T101.setTop (mkF m 4 #[.val (.ref a1), .val (.ref a2)] [])) (st101) ?_
  refine own_go (B := T101.setTop (mkF m 5 #[.val (.ref a1), .val (.ref a2)] [(.ref a1)])) (fun _ k => XS.aloadN X101.here hx rfl (hb hby d8_4) rfl rfl k) ?_
  refine own_go (B := T101.setTop (mkF m 6 #[.val (.ref a1), .val (.ref a2)] [(.ref a2), (.ref a1)])) (fun _ k => XS.aloadN X101.here hx rfl (hb hby d8_5) rfl rfl k) ?_
  obtain ⟨T102, h102, X102, e102, W102, st102⟩ := putF X101 hx hZ hown (host := "") (Or.inl (hw _ (List.mem_of_getElem? (i := 44) rfl))) Via.refl e101 F1 E1 (Or.inr ⟨(hw _ (List.mem_of_getElem? (i := 45) rfl)), rfl, hnm⟩) (hw _ (List.mem_of_getElem? (i := 38) rfl)) (ty := (.object "java/lang/String")) (by decide) rfl rfl (g := (mkF m 6 #[.val (.ref a1), .val (.ref a2)] [(.ref a2), (.ref a1)])) rfl rfl (hb hby d8_6)
  have Fw102 := F1.same W102
  have O102 := O0.wr W102 g1
  have N102 := Fr.snoc X102 N0 g1
  have K102' : Keep h0 h102 ([a1] : List Addr) := K0.wr W102 (Or.inl (List.mem_of_getElem? (i := 0) rfl))
  refine own_go (B := T102.setTop (mkF m 9 #[.val (.ref a1), .val (.ref a2)] [])) (st102) ?_
  obtain ⟨fs, hr, hrun, hended, hW, hsame⟩ := X102.leave (v := none) (fun _ => rfl)
  refine ⟨_, _, X102.returnOut hx Bd.returns (hb hby d8_9) hr, hrun, hended, _, _, rfl, ?_, ⟨_, rfl⟩, hW, hsame.mono (by decide) (by decide)⟩
  show Q_rm8 Z zC fm a1 a2 h0 n0 _ T102.heap _
  rw [e102]
  exact ⟨rfl, N102, K102', Fw102⟩
theorem d12_0 : decode prog_6_method_1_code 0 = .ok (.aload_n 0, 1) := by decide +kernel
theorem d12_1 : decode prog_6_method_1_code 1 = .ok (.invokespecial 1, 3) := by decide +kernel
theorem d12_4 : decode prog_6_method_1_code 4 = .ok (.aload_n 0, 1) := by decide +kernel
theorem d12_5 : decode prog_6_method_1_code 5 = .ok (.aload_n 1, 1) := by decide +kernel
theorem d12_6 : decode prog_6_method_1_code 6 = .ok (.putfield 7, 3) := by decide +kernel
theorem d12_9 : decode prog_6_method_1_code 9 = .ok (.return_, 1) := by decide +kernel
theorem pn_12 : plainName "com/example/facts_from_rules/factsfromrules/Constant" = true := by first | (simp [plainName, overriddenIn]; done) | decide +kernel
theorem ef_rm12 (m : MethodId) (a1 : Addr) (a2 : Addr) : entryFrame m #[(.ref a1), (.ref a2)] 2 = mkF m 0 #[.val (.ref a1), .val (.ref a2)] [] := by first | (simp [entryFrame, mkF, argsToLocals, Value.category]; done) | rfl
def Q_rm12 (Z : State) (zC : Int32) (fm : Value) (a1 : Addr) (a2 : Addr) (h0 : Heap) (n0 : Nat) (v : Option Value) (h : Heap) (L : List Loc) : Prop := v = none ∧ Fr n0 L ∧ Keep h0 h [a1]
set_option maxRecDepth 65536 in
set_option maxHeartbeats 40000000 in
theorem rm12 (l : Launch) (Z : State) (a0 : Array Value) (hw : ∀ d ∈ tables_1, d.before a0 Z = true) (ws : List Jvm.Cond) (zC : Int32) (fm : Value) (G : own_G Z zC fm) (a1 : Addr) (a2 : Addr) (h0 : Heap) (n0 : Nat) (Z0 : n0 ≤ h0.size) (O0 : Old Z n0 h0) (E1 : Exa Z h0 a1 "com/example/facts_from_rules/factsfromrules/Constant") (F1 : Fld Z h0 a1 "com/example/facts_from_rules/factsfromrules/Constant" "value" "Ljava/lang/Object;" .null) (g1 : n0 ≤ a1) :
    MetFree l (⟨"com/example/facts_from_rules/factsfromrules/Constant", "<init>", "(Ljava/lang/Object;)V"⟩ : MethodName) (head1 (Jvm.Cond.code (⟨"com/example/facts_from_rules/factsfromrules/Constant", "<init>", "(Ljava/lang/Object;)V"⟩ : MethodName) prog_6_method_1_code 2 none :: ws) ({ frames := 1, cells := 0, slots := 0, locals := 12 } : Room)) (fun a U => a = #[(.ref a1), (.ref a2)] ∧ Z.Warmed39 U.vm ∧ U.heap = h0) (fun _ _ _ _ _ => True) (fun _ U o U' => ∃ v L, o = .returned v ∧ Q_rm12 Z zC fm a1 a2 h0 n0 v U'.heap L ∧ FrameEnd U o U' L ({ frames := 1, cells := 0, slots := 0, locals := 12 } : Room).cells ({ frames := 1, cells := 0, slots := 0, locals := 12 } : Room).slots) := by
  refine MetFree.of_bodySF (plainFor_of_name pn_12) hisR ?_
  intro p e s m args below meth c s₁ Bd hml0 hP hK
  obtain ⟨rfl, hZ, hh⟩ := hP
  have hx := Bd.exec
  have hby := Bd.bytes
  have hml : c.maxLocals = 2 := hml0
  have hown : s.vm.findClass "com/example/facts_from_rules/factsfromrules/Constant" = some m.cls := findClass_of_methodNamed Bd.named
  have hnm := (name_of_methodNamed Bd.named Bd.method).1
  have X0 : Stand p l e ({ frames := 1, cells := 0, slots := 0, locals := 12 } : Room) s m #[(.ref a1), (.ref a2)] below meth c s₁ [] 0 0 := Stand.of_body Bd
  have e0 : s₁.heap = h0 := by rw [← hh, Bd.state]; rfl
  have N0 := Fr.nil n0
  have K0 := Keep.refl h0 ([a1] : List Addr)
  have G_ := G
  obtain ⟨S_String_COMPACT_STRINGS, hzC, S_Preconditions_SIOOBE_FORMATTER, hfm, G_end⟩ := G_
  change own_Go p e below _ _
  refine own_go (B := s₁.setTop (mkF m 0 #[.val (.ref a1), .val (.ref a2)] [])) (fun _ k => castTop (ef_rm12 m a1 a2) k) ?_
  refine own_go (B := s₁.setTop (mkF m 1 #[.val (.ref a1), .val (.ref a2)] [(.ref a1)])) (fun _ k => XS.aloadN X0.here hx rfl (hb hby d12_0) rfl rfl k) ?_
  obtain ⟨T101, X101, e101, st101⟩ := initO X0 hx hZ hown (hw _ (List.mem_of_getElem? (i := 69) rfl)) (hw _ (List.mem_of_getElem? (i := 16) rfl)) (hw _ (List.mem_of_getElem? (i := 17) rfl)) e0 (g := (mkF m 1 #[.val (.ref a1), .val (.ref a2)] [(.ref a1)])) rfl (by rw [hml]; rfl) rfl (hb hby d12_1) (by decide) (W := 0) (by show 2 * 0 + _ ≤ _; exact Nat.le_of_eq rfl) (by decide)
  refine own_go (B := T101.setTop (mkF m 4 #[.val (.ref a1), .val (.ref a2)] [])) (st101) ?_
  refine own_go (B := T101.setTop (mkF m 5 #[.val (.ref a1), .val (.ref a2)] [(.ref a1)])) (fun _ k => XS.aloadN X101.here hx rfl (hb hby d12_4) rfl rfl k) ?_
  refine own_go (B := T101.setTop (mkF m 6 #[.val (.ref a1), .val (.ref a2)] [(.ref a2), (.ref a1)])) (fun _ k => XS.aloadN X101.here hx rfl (hb hby d12_5) rfl rfl k) ?_
  obtain ⟨T102, h102, X102, e102, W102, st102⟩ := putF X101 hx hZ hown (host := "") (Or.inl (hw _ (List.mem_of_getElem? (i := 70) rfl))) Via.refl e101 F1 E1 (Or.inr ⟨(hw _ (List.mem_of_getElem? (i := 71) rfl)), rfl, hnm⟩) (hw _ (List.mem_of_getElem? (i := 64) rfl)) (ty := (.object "java/lang/Object")) (by decide) rfl rfl (g := (mkF m 6 #[.val (.ref a1), .val (.ref a2)] [(.ref a2), (.ref a1)])) rfl rfl (hb hby d12_6)
  have Fw102 := F1.same W102
  have O102 := O0.wr W102 g1
  have N102 := Fr.snoc X102 N0 g1
  have K102' : Keep h0 h102 ([a1] : List Addr) := K0.wr W102 (Or.inl (List.mem_of_getElem? (i := 0) rfl))
  refine own_go (B := T102.setTop (mkF m 9 #[.val (.ref a1), .val (.ref a2)] [])) (st102) ?_
  obtain ⟨fs, hr, hrun, hended, hW, hsame⟩ := X102.leave (v := none) (fun _ => rfl)
  refine ⟨_, _, X102.returnOut hx Bd.returns (hb hby d12_9) hr, hrun, hended, _, _, rfl, ?_, ⟨_, rfl⟩, hW, hsame.mono (by decide) (by decide)⟩
  show Q_rm12 Z zC fm a1 a2 h0 n0 _ T102.heap _
  rw [e102]
  exact ⟨rfl, N102, K102'⟩
theorem pd_2 : parseMethodDescriptor "(Ljava/lang/Object;)Z" = some ⟨[(.object "java/lang/Object")], some .boolean⟩ := by decide +kernel
theorem d9_0 : decode prog_34_method_4_code 0 = .ok (.aload_n 1, 1) := by decide +kernel
theorem d9_1 : decode prog_34_method_4_code 1 = .ok (.instanceof 8, 3) := by decide +kernel
theorem d9_4 : decode prog_34_method_4_code 4 = .ok (.ifCond .eq 24, 3) := by decide +kernel
theorem d9_7 : decode prog_34_method_4_code 7 = .ok (.aload_n 1, 1) := by decide +kernel
theorem d9_8 : decode prog_34_method_4_code 8 = .ok (.checkcast 8, 3) := by decide +kernel
theorem d9_11 : decode prog_34_method_4_code 11 = .ok (.getfield 7, 3) := by decide +kernel
theorem d9_14 : decode prog_34_method_4_code 14 = .ok (.aload_n 0, 1) := by decide +kernel
theorem d9_15 : decode prog_34_method_4_code 15 = .ok (.getfield 7, 3) := by decide +kernel
theorem d9_18 : decode prog_34_method_4_code 18 = .ok (.invokevirtual 21, 3) := by decide +kernel
theorem d9_21 : decode prog_34_method_4_code 21 = .ok (.ifCond .eq 7, 3) := by decide +kernel
theorem d9_24 : decode prog_34_method_4_code 24 = .ok (.iconst 1, 1) := by decide +kernel
theorem d9_25 : decode prog_34_method_4_code 25 = .ok (.goto 4, 3) := by decide +kernel
theorem d9_28 : decode prog_34_method_4_code 28 = .ok (.iconst 0, 1) := by decide +kernel
theorem d9_29 : decode prog_34_method_4_code 29 = .ok (.ireturn, 1) := by decide +kernel
theorem ef_rmEqA (m : MethodId) (a1 : Addr) (a2 : Addr) : entryFrame m #[(.ref a1), (.ref a2)] 2 = mkF m 0 #[.val (.ref a1), .val (.ref a2)] [] := by first | (simp [entryFrame, mkF, argsToLocals, Value.category]; done) | rfl
def Q_rmEqA (Z : State) (zC : Int32) (fm : Value) (a1 : Addr) (a2 : Addr) (s1 : Addr) (s2 : Addr) (cs : List Int32) (ds : List Int32) (h0 : Heap) (n0 : Nat) (v : Option Value) (h : Heap) (L : List Loc) : Prop := v = some (.int (own_eqs ds cs)) ∧ Fr n0 L ∧ h = h0
set_option maxRecDepth 65536 in
set_option maxHeartbeats 40000000 in
theorem rmEqA (l : Launch) (Z : State) (a0 : Array Value) (hw : ∀ d ∈ tables_1, d.before a0 Z = true) (ws : List Jvm.Cond) (zC : Int32) (fm : Value) (G : own_G Z zC fm) (a1 : Addr) (a2 : Addr) (s1 : Addr) (s2 : Addr) (cs : List Int32) (ds : List Int32) (h0 : Heap) (n0 : Nat) (Z0 : n0 ≤ h0.size) (O0 : Old Z n0 h0) (E2 : Exa Z h0 a2 "com/example/facts_from_rules/factsfromrules/Variable") (F1 : Fld Z h0 a1 "com/example/facts_from_rules/factsfromrules/Variable" "name" "Ljava/lang/String;" (.ref s1)) (F2 : Fld Z h0 a2 "com/example/facts_from_rules/factsfromrules/Variable" "name" "Ljava/lang/String;" (.ref s2)) (T1 : own_Str Z h0 s1 cs) (T2 : own_Str Z h0 s2 ds) :
    MetFree l (⟨"com/example/facts_from_rules/factsfromrules/Variable", "equals", "(Ljava/lang/Object;)Z"⟩ : MethodName) (head1 (Jvm.Cond.code (⟨"com/example/facts_from_rules/factsfromrules/Variable", "equals", "(Ljava/lang/Object;)Z"⟩ : MethodName) prog_34_method_4_code 2 (some .boolean) :: ws) ({ frames := 2, cells := 0, slots := 0, locals := 28 } : Room)) (fun a U => a = #[(.ref a1), (.ref a2)] ∧ Z.Warmed39 U.vm ∧ U.heap = h0) (fun _ _ _ _ _ => True) (fun _ U o U' => ∃ v L, o = .returned v ∧ Q_rmEqA Z zC fm a1 a2 s1 s2 cs ds h0 n0 v U'.heap L ∧ FrameEnd U o U' L ({ frames := 2, cells := 0, slots := 0, locals := 28 } : Room).cells ({ frames := 2, cells := 0, slots := 0, locals := 28 } : Room).slots) := by
  refine MetFree.of_bodySF (plainFor_of_name pn_8) hisR ?_
  intro p e s m args below meth c s₁ Bd hml0 hP hK
  obtain ⟨rfl, hZ, hh⟩ := hP
  have hx := Bd.exec
  have hby := Bd.bytes
  have hml : c.maxLocals = 2 := hml0
  have hown : s.vm.findClass "com/example/facts_from_rules/factsfromrules/Variable" = some m.cls := findClass_of_methodNamed Bd.named
  have hnm := (name_of_methodNamed Bd.named Bd.method).1
  have X0 : Stand p l e ({ frames := 2, cells := 0, slots := 0, locals := 28 } : Room) s m #[(.ref a1), (.ref a2)] below meth c s₁ [] 0 0 := Stand.of_body Bd
  have e0 : s₁.heap = h0 := by rw [← hh, Bd.state]; rfl
  have N0 := Fr.nil n0
  have K0 := Keep.refl h0 ([] : List Addr)
  have G_ := G
  obtain ⟨S_String_COMPACT_STRINGS, hzC, S_Preconditions_SIOOBE_FORMATTER, hfm, G_end⟩ := G_
  change own_Go p e below _ _
  refine own_go (B := s₁.setTop (mkF m 0 #[.val (.ref a1), .val (.ref a2)] [])) (fun _ k => castTop (ef_rmEqA m a1 a2) k) ?_
  obtain ⟨t101, kb101, Nb101, vs101, Es101, Fv101, Fc101, Vb101, cd101, rg101, ln101⟩ := T1
  obtain ⟨t102, kb102, Nb102, vs102, Es102, Fv102, Fc102, Vb102, cd102, rg102, ln102⟩ := T2
  refine own_go (B := s₁.setTop (mkF m 1 #[.val (.ref a1), .val (.ref a2)] [(.ref a2)])) (fun _ k => XS.aloadN X0.here hx rfl (hb hby d9_0) rfl rfl k) ?_
  obtain ⟨T103, X103, e103, st103⟩ := instY X0 hx hZ hown (hw _ (List.mem_of_getElem? (i := 51) rfl)) e0 (Ins.self E2) (g := (mkF m 1 #[.val (.ref a1), .val (.ref a2)] [(.ref a2)])) rfl rfl (hb hby d9_1)
  refine own_go (B := T103.setTop (mkF m 4 #[.val (.ref a1), .val (.ref a2)] [(.int (1 : Int32))])) (st103) ?_
  refine own_go (B := T103.setTop (mkF m 7 #[.val (.ref a1), .val (.ref a2)] [])) (fun _ k => XS.ifNo X103.here hx rfl (hb hby d9_4) rfl ((if0 _ _).trans (feq (by decide : ¬ ((1 : Int32) = (0 : Int32)))).1) k) ?_
  refine own_go (B := T103.setTop (mkF m 8 #[.val (.ref a1), .val (.ref a2)] [(.ref a2)])) (fun _ k => XS.aloadN X103.here hx rfl (hb hby d9_7) rfl rfl k) ?_
  obtain ⟨T104, X104, e104, st104⟩ := castY X103 hx hZ hown (hw _ (List.mem_of_getElem? (i := 51) rfl)) e103 (Ins.self E2) (g := (mkF m 8 #[.val (.ref a1), .val (.ref a2)] [(.ref a2)])) rfl rfl (hb hby d9_8)
  refine own_go (B := T104.setTop (mkF m 11 #[.val (.ref a1), .val (.ref a2)] [(.ref a2)])) (st104) ?_
  obtain ⟨T105, X105, e105, st105⟩ := getF X104 hx hZ hown (host := "") (Or.inl (hw _ (List.mem_of_getElem? (i := 44) rfl))) Via.refl e104 F2 (g := (mkF m 11 #[.val (.ref a1), .val (.ref a2)] [(.ref a2)])) rfl rfl (hb hby d9_11)
  refine own_go (B := T105.setTop (mkF m 14 #[.val (.ref a1), .val (.ref a2)] [(.ref s2)])) (st105) ?_
  refine own_go (B := T105.setTop (mkF m 15 #[.val (.ref a1), .val (.ref a2)] [(.ref a1), (.ref s2)])) (fun _ k => XS.aloadN X105.here hx rfl (hb hby d9_14) rfl rfl k) ?_
  obtain ⟨T106, X106, e106, st106⟩ := getF X105 hx hZ hown (host := "") (Or.inl (hw _ (List.mem_of_getElem? (i := 44) rfl))) Via.refl e105 F1 (g := (mkF m 15 #[.val (.ref a1), .val (.ref a2)] [(.ref a1), (.ref s2)])) rfl rfl (hb hby d9_15)
  refine own_go (B := T106.setTop (mkF m 18 #[.val (.ref a1), .val (.ref a2)] [(.ref s1), (.ref s2)])) (st106) ?_
  obtain ⟨cq107, kq107, q107a, q107b, q107c⟩ := isOf hZ e106 Es102
  obtain ⟨_, _, ⟨T107, L107, k107, n107⟩, -, X107, ⟨Lc107, hQ107, l107, y107, z107⟩, st107⟩ := X106.virtualBack hx (y := (⟨"java/lang/String", "equals", "(Ljava/lang/Object;)Z"⟩ : MethodName)) (z := (⟨"java/lang/String", "equals", "(Ljava/lang/Object;)Z"⟩ : MethodName)) hown (mvT hZ (hw _ (List.mem_of_getElem? (i := 53) rfl))) (mvT hZ (hw _ (List.mem_of_getElem? (i := 54) rfl))) (notFace_of_selects (args := #[]) (mvT hZ (hw _ (List.mem_of_getElem? (i := 56) rfl)))) (mvT hZ (hw _ (List.mem_of_getElem? (i := 56) rfl))) (mvT hZ (hw _ (List.mem_of_getElem? (i := 55) rfl))) (by decide) (own_eqW (W := 0) hZ hw n0 (⟨t102, kb102, Nb102, vs102, Es102, Fv102, Fc102, Vb102, cd102, rg102, ln102⟩ : own_Str Z h0 s2 ds) (⟨t101, kb101, Nb101, vs101, Es101, Fv101, Fc101, Vb101, cd101, rg101, ln101⟩ : own_Str Z h0 s1 cs) (S_String_COMPACT_STRINGS.ext O0.2) hzC (by decide) (by decide)) q107a q107c (g := (mkF m 18 #[.val (.ref a1), .val (.ref a2)] [(.ref s1), (.ref s2)])) rfl (by rw [hml]; rfl) (Steps.refl _) (argsL := [(.ref s1)]) (rest := []) (lenOf pd_2 rfl) rfl (by show 2 * 0 + _ ≤ _; exact Nat.le_of_eq rfl) (hb hby d9_18) (fun _ _ => ⟨rfl, e106, (by decide : 0 + 0 ≤ 0), (by decide : 0 + 0 ≤ 0)⟩)
  dsimp only [Pt.U, Pt.locs, Pt.cells, Pt.slots] at X107 l107 y107 z107 st107 hQ107
  subst l107 y107 z107
  obtain ⟨rfl, N107q, K107⟩ := hQ107
  have N107 := Fr.app N0 N107q
  have e107 : T107.heap = h0 := K107
  refine own_go (B := T107.setTop (mkF m 21 #[.val (.ref a1), .val (.ref a2)] [(.int (own_eqs ds cs))])) (fun _ k => st107.trans k) ?_
  by_cases hc21 : (own_eqs ds cs) = (0 : Int32)
  · refine own_go (B := T107.setTop (mkF m 28 #[.val (.ref a1), .val (.ref a2)] [])) (fun _ k => XS.ifYes X107.here hx rfl (pc0 := 21) (pc' := 28) rfl (hb hby d9_21) rfl ((if0 _ _).trans (teq hc21).1) (by decide) (by decide) k) ?_
    refine own_go (B := T107.setTop (mkF m 29 #[.val (.ref a1), .val (.ref a2)] [(.int (0 : Int32))])) (fun _ k => XS.iconst X107.here hx rfl (hb hby d9_28) k) ?_
    obtain ⟨fs, hr, hrun, hended, hW, hsame⟩ := X107.leave (v := some (.int (nar .boolean (0 : Int32)))) (fun h => by rw [Bd.returns] at h; cases h)
    refine ⟨_, _, retN X107 hx (t := .boolean) Bd.returns (by simp) (hb hby d9_29) hr, hrun, hended, _, _, rfl, ?_, ⟨_, rfl⟩, hW, hsame.mono (by decide) (by decide)⟩
    show Q_rmEqA Z zC fm a1 a2 s1 s2 cs ds h0 n0 _ T107.heap _
    rw [e107]
    exact ⟨(by rw [show nar .boolean (0 : Int32) = (0 : Int32) from by decide]; rw [hc21]), N107, rfl⟩
  · refine own_go (B := T107.setTop (mkF m 24 #[.val (.ref a1), .val (.ref a2)] [])) (fun _ k => XS.ifNo X107.here hx rfl (hb hby d9_21) rfl ((if0 _ _).trans (feq hc21).1) k) ?_
    refine own_go (B := T107.setTop (mkF m 25 #[.val (.ref a1), .val (.ref a2)] [(.int (1 : Int32))])) (fun _ k => XS.iconst X107.here hx rfl (hb hby d9_24) k) ?_
    refine own_go (B := T107.setTop (mkF m 29 #[.val (.ref a1), .val (.ref a2)] [(.int (1 : Int32))])) (fun _ k => XS.goto X107.here hx rfl (pc0 := 25) (pc' := 29) rfl (hb hby d9_25) (by decide) (by decide) k) ?_
    obtain ⟨fs, hr, hrun, hended, hW, hsame⟩ := X107.leave (v := some (.int (nar .boolean (1 : Int32)))) (fun h => by rw [Bd.returns] at h; cases h)
    refine ⟨_, _, retN X107 hx (t := .boolean) Bd.returns (by simp) (hb hby d9_29) hr, hrun, hended, _, _, rfl, ?_, ⟨_, rfl⟩, hW, hsame.mono (by decide) (by decide)⟩
    show Q_rmEqA Z zC fm a1 a2 s1 s2 cs ds h0 n0 _ T107.heap _
    rw [e107]
    exact ⟨(by rw [show nar .boolean (1 : Int32) = (1 : Int32) from by decide]; rcases own_eqs_01 ds cs with e | e <;> simp_all), N107, rfl⟩
theorem ef_rmEqN (m : MethodId) (a1 : Addr) : entryFrame m #[(.ref a1), .null] 2 = mkF m 0 #[.val (.ref a1), .val .null] [] := by first | (simp [entryFrame, mkF, argsToLocals, Value.category]; done) | rfl
def Q_rmEqN (Z : State) (zC : Int32) (fm : Value) (a1 : Addr) (h0 : Heap) (n0 : Nat) (v : Option Value) (h : Heap) (L : List Loc) : Prop := v = some (.int (0 : Int32)) ∧ Fr n0 L ∧ h = h0
set_option maxRecDepth 65536 in
set_option maxHeartbeats 40000000 in
theorem rmEqN (l : Launch) (Z : State) (a0 : Array Value) (hw : ∀ d ∈ tables_1, d.before a0 Z = true) (ws : List Jvm.Cond) (zC : Int32) (fm : Value) (G : own_G Z zC fm) (a1 : Addr) (h0 : Heap) (n0 : Nat) (Z0 : n0 ≤ h0.size) (O0 : Old Z n0 h0) :
    MetFree l (⟨"com/example/facts_from_rules/factsfromrules/Variable", "equals", "(Ljava/lang/Object;)Z"⟩ : MethodName) (head1 (Jvm.Cond.code (⟨"com/example/facts_from_rules/factsfromrules/Variable", "equals", "(Ljava/lang/Object;)Z"⟩ : MethodName) prog_34_method_4_code 2 (some .boolean) :: ws) ({ frames := 0, cells := 0, slots := 0, locals := 0 } : Room)) (fun a U => a = #[(.ref a1), .null] ∧ Z.Warmed39 U.vm ∧ U.heap = h0) (fun _ _ _ _ _ => True) (fun _ U o U' => ∃ v L, o = .returned v ∧ Q_rmEqN Z zC fm a1 h0 n0 v U'.heap L ∧ FrameEnd U o U' L ({ frames := 0, cells := 0, slots := 0, locals := 0 } : Room).cells ({ frames := 0, cells := 0, slots := 0, locals := 0 } : Room).slots) := by
  refine MetFree.of_bodySF (plainFor_of_name pn_8) hisR ?_
  intro p e s m args below meth c s₁ Bd hml0 hP hK
  obtain ⟨rfl, hZ, hh⟩ := hP
  have hx := Bd.exec
  have hby := Bd.bytes
  have hml : c.maxLocals = 2 := hml0
  have hown : s.vm.findClass "com/example/facts_from_rules/factsfromrules/Variable" = some m.cls := findClass_of_methodNamed Bd.named
  have hnm := (name_of_methodNamed Bd.named Bd.method).1
  have X0 : Stand p l e ({ frames := 0, cells := 0, slots := 0, locals := 0 } : Room) s m #[(.ref a1), .null] below meth c s₁ [] 0 0 := Stand.of_body Bd
  have e0 : s₁.heap = h0 := by rw [← hh, Bd.state]; rfl
  have N0 := Fr.nil n0
  have K0 := Keep.refl h0 ([] : List Addr)
  have G_ := G
  obtain ⟨S_String_COMPACT_STRINGS, hzC, S_Preconditions_SIOOBE_FORMATTER, hfm, G_end⟩ := G_
  change own_Go p e below _ _
  refine own_go (B := s₁.setTop (mkF m 0 #[.val (.ref a1), .val .null] [])) (fun _ k => castTop (ef_rmEqN m a1) k) ?_
  refine own_go (B := s₁.setTop (mkF m 1 #[.val (.ref a1), .val .null] [.null])) (fun _ k => XS.aloadN X0.here hx rfl (hb hby d9_0) rfl rfl k) ?_
  refine own_go (B := s₁.setTop (mkF m 4 #[.val (.ref a1), .val .null] [(.int (0 : Int32))])) (X0.instanceofNull hx (g := (mkF m 1 #[.val (.ref a1), .val .null] [.null])) rfl rfl (hb hby d9_1)) ?_
  refine own_go (B := s₁.setTop (mkF m 28 #[.val (.ref a1), .val .null] [])) (fun _ k => XS.ifYes X0.here hx rfl (pc0 := 4) (pc' := 28) rfl (hb hby d9_4) rfl ((if0 _ _).trans (teq (by decide : (0 : Int32) = (0 : Int32))).1) (by decide) (by decide) k) ?_
  refine own_go (B := s₁.setTop (mkF m 29 #[.val (.ref a1), .val .null] [(.int (0 : Int32))])) (fun _ k => XS.iconst X0.here hx rfl (hb hby d9_28) k) ?_
  obtain ⟨fs, hr, hrun, hended, hW, hsame⟩ := X0.leave (v := some (.int (nar .boolean (0 : Int32)))) (fun h => by rw [Bd.returns] at h; cases h)
  refine ⟨_, _, retN X0 hx (t := .boolean) Bd.returns (by simp) (hb hby d9_29) hr, hrun, hended, _, _, rfl, ?_, ⟨_, rfl⟩, hW, hsame.mono (by decide) (by decide)⟩
  show Q_rmEqN Z zC fm a1 h0 n0 _ s₁.heap _
  rw [e0]
  exact ⟨rfl, N0, rfl⟩
theorem ef_rmEqC (m : MethodId) (a1 : Addr) (a2 : Addr) : entryFrame m #[(.ref a1), (.ref a2)] 2 = mkF m 0 #[.val (.ref a1), .val (.ref a2)] [] := by first | (simp [entryFrame, mkF, argsToLocals, Value.category]; done) | rfl
def Q_rmEqC (Z : State) (zC : Int32) (fm : Value) (a1 : Addr) (a2 : Addr) (h0 : Heap) (n0 : Nat) (v : Option Value) (h : Heap) (L : List Loc) : Prop := v = some (.int (0 : Int32)) ∧ Fr n0 L ∧ h = h0
set_option maxRecDepth 65536 in
set_option maxHeartbeats 40000000 in
theorem rmEqC (l : Launch) (Z : State) (a0 : Array Value) (hw : ∀ d ∈ tables_1, d.before a0 Z = true) (ws : List Jvm.Cond) (zC : Int32) (fm : Value) (G : own_G Z zC fm) (a1 : Addr) (a2 : Addr) (h0 : Heap) (n0 : Nat) (Z0 : n0 ≤ h0.size) (O0 : Old Z n0 h0) (E2 : Exa Z h0 a2 "com/example/facts_from_rules/factsfromrules/Constant") :
    MetFree l (⟨"com/example/facts_from_rules/factsfromrules/Variable", "equals", "(Ljava/lang/Object;)Z"⟩ : MethodName) (head1 (Jvm.Cond.code (⟨"com/example/facts_from_rules/factsfromrules/Variable", "equals", "(Ljava/lang/Object;)Z"⟩ : MethodName) prog_34_method_4_code 2 (some .boolean) :: ws) ({ frames := 0, cells := 0, slots := 0, locals := 0 } : Room)) (fun a U => a = #[(.ref a1), (.ref a2)] ∧ Z.Warmed39 U.vm ∧ U.heap = h0) (fun _ _ _ _ _ => True) (fun _ U o U' => ∃ v L, o = .returned v ∧ Q_rmEqC Z zC fm a1 a2 h0 n0 v U'.heap L ∧ FrameEnd U o U' L ({ frames := 0, cells := 0, slots := 0, locals := 0 } : Room).cells ({ frames := 0, cells := 0, slots := 0, locals := 0 } : Room).slots) := by
  refine MetFree.of_bodySF (plainFor_of_name pn_8) hisR ?_
  intro p e s m args below meth c s₁ Bd hml0 hP hK
  obtain ⟨rfl, hZ, hh⟩ := hP
  have hx := Bd.exec
  have hby := Bd.bytes
  have hml : c.maxLocals = 2 := hml0
  have hown : s.vm.findClass "com/example/facts_from_rules/factsfromrules/Variable" = some m.cls := findClass_of_methodNamed Bd.named
  have hnm := (name_of_methodNamed Bd.named Bd.method).1
  have X0 : Stand p l e ({ frames := 0, cells := 0, slots := 0, locals := 0 } : Room) s m #[(.ref a1), (.ref a2)] below meth c s₁ [] 0 0 := Stand.of_body Bd
  have e0 : s₁.heap = h0 := by rw [← hh, Bd.state]; rfl
  have N0 := Fr.nil n0
  have K0 := Keep.refl h0 ([] : List Addr)
  have G_ := G
  obtain ⟨S_String_COMPACT_STRINGS, hzC, S_Preconditions_SIOOBE_FORMATTER, hfm, G_end⟩ := G_
  change own_Go p e below _ _
  refine own_go (B := s₁.setTop (mkF m 0 #[.val (.ref a1), .val (.ref a2)] [])) (fun _ k => castTop (ef_rmEqC m a1 a2) k) ?_
  refine own_go (B := s₁.setTop (mkF m 1 #[.val (.ref a1), .val (.ref a2)] [(.ref a2)])) (fun _ k => XS.aloadN X0.here hx rfl (hb hby d9_0) rfl rfl k) ?_
  obtain ⟨T101, X101, e101, st101⟩ := instNo X0 hx hZ hown (hw _ (List.mem_of_getElem? (i := 51) rfl)) e0 E2 (own_nsno (hw _ (List.mem_of_getElem? (i := 72) rfl)) (hw _ (List.mem_of_getElem? (i := 38) rfl)) (NS.step (hw _ (List.mem_of_getElem? (i := 72) rfl)) (own_nsroot (hw _ (List.mem_of_getElem? (i := 73) rfl)) (hw _ (List.mem_of_getElem? (i := 38) rfl)) (by decide)) (by decide)) (by decide)) (g := (mkF m 1 #[.val (.ref a1), .val (.ref a2)] [(.ref a2)])) rfl rfl (hb hby d9_1)
  refine own_go (B := T101.setTop (mkF m 4 #[.val (.ref a1), .val (.ref a2)] [(.int (0 : Int32))])) (st101) ?_
  refine own_go (B := T101.setTop (mkF m 28 #[.val (.ref a1), .val (.ref a2)] [])) (fun _ k => XS.ifYes X101.here hx rfl (pc0 := 4) (pc' := 28) rfl (hb hby d9_4) rfl ((if0 _ _).trans (teq (by decide : (0 : Int32) = (0 : Int32))).1) (by decide) (by decide) k) ?_
  refine own_go (B := T101.setTop (mkF m 29 #[.val (.ref a1), .val (.ref a2)] [(.int (0 : Int32))])) (fun _ k => XS.iconst X101.here hx rfl (hb hby d9_28) k) ?_
  obtain ⟨fs, hr, hrun, hended, hW, hsame⟩ := X101.leave (v := some (.int (nar .boolean (0 : Int32)))) (fun h => by rw [Bd.returns] at h; cases h)
  refine ⟨_, _, retN X101 hx (t := .boolean) Bd.returns (by simp) (hb hby d9_29) hr, hrun, hended, _, _, rfl, ?_, ⟨_, rfl⟩, hW, hsame.mono (by decide) (by decide)⟩
  show Q_rmEqC Z zC fm a1 a2 h0 n0 _ T101.heap _
  rw [e101]
  exact ⟨rfl, N0, rfl⟩
theorem pd_3 : parseMethodDescriptor "(ICCC)Ljava/lang/String;" = some ⟨[.int, .char, .char, .char], some (.object "java/lang/String")⟩ := by decide +kernel
theorem pd_4 : parseMethodDescriptor "(Ljava/lang/String;)V" = some ⟨[(.object "java/lang/String")], none⟩ := by decide +kernel
theorem pd_5 : parseMethodDescriptor "(Ljava/lang/Object;)V" = some ⟨[(.object "java/lang/Object")], none⟩ := by decide +kernel
theorem ef_rm0 (m : MethodId) (p0 : Int32) (p1 : Int32) (p2 : Int32) : entryFrame m #[(.int p0), (.int p1), (.int p2)] maxLocals = mkF m 0 #[.val (.int p0), .val (.int p1), .val (.int p2), .unset, .unset, .unset, .unset, .unset, .unset, .unset, .unset, .unset, .unset, .unset, .unset, .unset, .unset, .unset, .unset, .unset, .unset] [] := by first | (simp [entryFrame, mkF, argsToLocals, Value.category, maxLocals]; done) | rfl
def Q_rm0 (Z : State) (zC : Int32) (fm : Value) (p0 : Int32) (p1 : Int32) (p2 : Int32) (h0 : Heap) (n0 : Nat) (v : Option Value) (h : Heap) (L : List Loc) : Prop := v = some (.int (1 : Int32)) ∧ Fr n0 L
set_option maxRecDepth 65536 in
set_option maxHeartbeats 40000000 in
theorem rm0 (l : Launch) (Z : State) (a0 : Array Value) (hw : ∀ d ∈ tables_1, d.before a0 Z = true) (ws : List Jvm.Cond) (zC : Int32) (fm : Value) (G : own_G Z zC fm) (p0 : Int32) (p1 : Int32) (p2 : Int32) (h0 : Heap) (n0 : Nat) (Z0 : n0 ≤ h0.size) (O0 : Old Z n0 h0) :
    MetFree l x (head1 (Jvm.Cond.code x code maxLocals ret :: ws) room_1) (fun a U => a = #[(.int p0), (.int p1), (.int p2)] ∧ Z.Warmed39 U.vm ∧ U.heap = h0 ∧ CHv Z own_EL U.vm h0 ∧ ∀ x ∈ ([] : List Addr), Safe Z own_EL U.vm h0 x) (fun _ _ _ _ _ => True) (fun _ U o U' => ∃ v L, o = .returned v ∧ Q_rm0 Z zC fm p0 p1 p2 h0 n0 v U'.heap L ∧ CHr Z own_EL U.vm U.heap U'.vm U'.heap ∧ ReturnedEndW U o U' L room_1.cells room_1.slots) := by
  refine MetFree.of_bodySF (plainFor_of_name pn_1) hisR ?_
  intro p e s m args below meth c s₁ Bd hml0 hP hK
  obtain ⟨rfl, hZ, hh, CH0, SL0⟩ := hP
  have hx := Bd.exec
  have hby := Bd.bytes
  have hml : c.maxLocals = 21 := hml0
  have hown : s.vm.findClass "com/example/facts_from_rules/factsfromrules/VariableEqualsPinLaw" = some m.cls := findClass_of_methodNamed Bd.named
  have hnm := (name_of_methodNamed Bd.named Bd.method).1
  have X0 : Stand p l e room_1 s m #[(.int p0), (.int p1), (.int p2)] below meth c s₁ [] 0 0 := Stand.of_body Bd
  have e0 : s₁.heap = h0 := by rw [← hh, Bd.state]; rfl
  have N0 := Fr.nil n0
  have K0 := Keep.refl h0 ([] : List Addr)
  have S0 : s.Since s.vm 0 := (State.WarmedH.refl s).since 0
  have CR0 := CHr.refl CH0
  have hEL := own_EW hw
  have wS := own_wS hw
  have G_ := G
  obtain ⟨S_String_COMPACT_STRINGS, hzC, S_Preconditions_SIOOBE_FORMATTER, hfm, G_end⟩ := G_
  change own_Go p e below _ _
  refine own_go (B := s₁.setTop (mkF m 0 #[.val (.int p0), .val (.int p1), .val (.int p2), .unset, .unset, .unset, .unset, .unset, .unset, .unset, .unset, .unset, .unset, .unset, .unset, .unset, .unset, .unset, .unset, .unset, .unset] [])) (fun _ k => castTop (ef_rm0 m p0 p1 p2) k) ?_
  refine own_go (B := s₁.setTop (mkF m 1 #[.val (.int p0), .val (.int p1), .val (.int p2), .unset, .unset, .unset, .unset, .unset, .unset, .unset, .unset, .unset, .unset, .unset, .unset, .unset, .unset, .unset, .unset, .unset, .unset] [(.int p2)])) (fun _ k => XS.iloadN X0.here hx rfl (hb hby at_0) rfl k) ?_
  refine own_go (B := s₁.setTop (mkF m 2 #[.val (.int p0), .val (.int p1), .val (.int p2), .unset, .unset, .unset, .unset, .unset, .unset, .unset, .unset, .unset, .unset, .unset, .unset, .unset, .unset, .unset, .unset, .unset, .unset] [(.int (3 : Int32)), (.int p2)])) (fun _ k => XS.iconst X0.here hx rfl (hb hby at_1) k) ?_
  refine own_go (B := s₁.setTop (mkF m 3 #[.val (.int p0), .val (.int p1), .val (.int p2), .unset, .unset, .unset, .unset, .unset, .unset, .unset, .unset, .unset, .unset, .unset, .unset, .unset, .unset, .unset, .unset, .unset, .unset] [(.int (p2 &&& (3 : Int32)))])) (fun _ k => XS.iand X0.here hx rfl (hb hby at_2) rfl k) ?_
  generalize hv3 : (p2 &&& (3 : Int32)) = v3
  refine own_go (B := s₁.setTop (mkF m 4 #[.val (.int p0), .val (.int p1), .val (.int p2), .val (.int v3), .unset, .unset, .unset, .unset, .unset, .unset, .unset, .unset, .unset, .unset, .unset, .unset, .unset, .unset, .unset, .unset, .unset] [])) (fun _ k => XS.istoreN X0.here hx rfl (hb hby at_3) rfl (l' := #[.val (.int p0), .val (.int p1), .val (.int p2), .val (.int v3), .unset, .unset, .unset, .unset, .unset, .unset, .unset, .unset, .unset, .unset, .unset, .unset, .unset, .unset, .unset, .unset, .unset]) rfl k) ?_
  have jn35 : ∀ (Tj : State) (Lj35 : List Loc) (Xj : Stand p l e room_1 s m #[(.int p0), (.int p1), (.int p2)] below meth c Tj Lj35 0 0) (Nj35 : Fr n0 Lj35) (ej : Tj.heap = h0) (sl : Int32) (l2 : Int32) (hl2 : own_r4 l2), own_Go p e below (fun o U' => ∃ v L, o = .returned v ∧ Q_rm0 Z zC fm p0 p1 p2 h0 n0 v U'.heap L ∧ CHr Z own_EL s.vm s.heap U'.vm U'.heap ∧ ReturnedEndW s o U' L room_1.cells room_1.slots) (Tj.setTop (mkF m 35 #[.val (.int p0), .val (.int p1), .val (.int p2), .val (.int v3), .val (.int sl), .val (.int l2), .unset, .unset, .unset, .unset, .unset, .unset, .unset, .unset, .unset, .unset, .unset, .unset, .unset, .unset, .unset] [])) := by
    intro Tj Lj35 Xj Nj35 ej sl l2 hl2
    refine own_go (B := Tj.setTop (mkF m 36 #[.val (.int p0), .val (.int p1), .val (.int p2), .val (.int v3), .val (.int sl), .val (.int l2), .unset, .unset, .unset, .unset, .unset, .unset, .unset, .unset, .unset, .unset, .unset, .unset, .unset, .unset, .unset] [(.int p0)])) (fun _ k => XS.iloadN Xj.here hx rfl (hb hby at_35) rfl k) ?_
    refine own_go (B := Tj.setTop (mkF m 39 #[.val (.int p0), .val (.int p1), .val (.int p2), .val (.int v3), .val (.int sl), .val (.int l2), .unset, .unset, .unset, .unset, .unset, .unset, .unset, .unset, .unset, .unset, .unset, .unset, .unset, .unset, .unset] [(.int (255 : Int32)), (.int p0)])) (fun _ k => XS.sipush Xj.here hx rfl (hb hby at_36) k) ?_
    refine own_go (B := Tj.setTop (mkF m 40 #[.val (.int p0), .val (.int p1), .val (.int p2), .val (.int v3), .val (.int sl), .val (.int l2), .unset, .unset, .unset, .unset, .unset, .unset, .unset, .unset, .unset, .unset, .unset, .unset, .unset, .unset, .unset] [(.int (p0 &&& (255 : Int32)))])) (fun _ k => XS.iand Xj.here hx rfl (hb hby at_39) rfl k) ?_
    refine own_go (B := Tj.setTop (mkF m 41 #[.val (.int p0), .val (.int p1), .val (.int p2), .val (.int v3), .val (.int sl), .val (.int l2), .unset, .unset, .unset, .unset, .unset, .unset, .unset, .unset, .unset, .unset, .unset, .unset, .unset, .unset, .unset] [(.int ((p0 &&& (255 : Int32)).toUInt32.toUInt16.toUInt32.toInt32))])) (fun _ k => XS.i2c Xj.here hx rfl (hb hby at_40) rfl k) ?_
    generalize hv41 : ((p0 &&& (255 : Int32)).toUInt32.toUInt16.toUInt32.toInt32) = v41
    refine own_go (B := Tj.setTop (mkF m 43 #[.val (.int p0), .val (.int p1), .val (.int p2), .val (.int v3), .val (.int sl), .val (.int l2), .val (.int v41), .unset, .unset, .unset, .unset, .unset, .unset, .unset, .unset, .unset, .unset, .unset, .unset, .unset, .unset] [])) (fun _ k => XS.istore Xj.here hx rfl (hb hby at_41) rfl (l' := #[.val (.int p0), .val (.int p1), .val (.int p2), .val (.int v3), .val (.int sl), .val (.int l2), .val (.int v41), .unset, .unset, .unset, .unset, .unset, .unset, .unset, .unset, .unset, .unset, .unset, .unset, .unset, .unset]) rfl k) ?_
    refine own_go (B := Tj.setTop (mkF m 44 #[.val (.int p0), .val (.int p1), .val (.int p2), .val (.int v3), .val (.int sl), .val (.int l2), .val (.int v41), .unset, .unset, .unset, .unset, .unset, .unset, .unset, .unset, .unset, .unset, .unset, .unset, .unset, .unset] [(.int p0)])) (fun _ k => XS.iloadN Xj.here hx rfl (hb hby at_43) rfl k) ?_
    refine own_go (B := Tj.setTop (mkF m 46 #[.val (.int p0), .val (.int p1), .val (.int p2), .val (.int v3), .val (.int sl), .val (.int l2), .val (.int v41), .unset, .unset, .unset, .unset, .unset, .unset, .unset, .unset, .unset, .unset, .unset, .unset, .unset, .unset] [(.int (8 : Int32)), (.int p0)])) (fun _ k => XS.bipush Xj.here hx rfl (hb hby at_44) k) ?_
    refine own_go (B := Tj.setTop (mkF m 47 #[.val (.int p0), .val (.int p1), .val (.int p2), .val (.int v3), .val (.int sl), .val (.int l2), .val (.int v41), .unset, .unset, .unset, .unset, .unset, .unset, .unset, .unset, .unset, .unset, .unset, .unset, .unset, .unset] [(.int ((p0.toUInt32 >>> ((8 : Int32) &&& 31).toUInt32).toInt32))])) (fun _ k => XS.iushr Xj.here hx rfl (hb hby at_46) rfl k) ?_
    refine own_go (B := Tj.setTop (mkF m 50 #[.val (.int p0), .val (.int p1), .val (.int p2), .val (.int v3), .val (.int sl), .val (.int l2), .val (.int v41), .unset, .unset, .unset, .unset, .unset, .unset, .unset, .unset, .unset, .unset, .unset, .unset, .unset, .unset] [(.int (255 : Int32)), (.int ((p0.toUInt32 >>> ((8 : Int32) &&& 31).toUInt32).toInt32))])) (fun _ k => XS.sipush Xj.here hx rfl (hb hby at_47) k) ?_
    refine own_go (B := Tj.setTop (mkF m 51 #[.val (.int p0), .val (.int p1), .val (.int p2), .val (.int v3), .val (.int sl), .val (.int l2), .val (.int v41), .unset, .unset, .unset, .unset, .unset, .unset, .unset, .unset, .unset, .unset, .unset, .unset, .unset, .unset] [(.int (((p0.toUInt32 >>> ((8 : Int32) &&& 31).toUInt32).toInt32) &&& (255 : Int32)))])) (fun _ k => XS.iand Xj.here hx rfl (hb hby at_50) rfl k) ?_
    refine own_go (B := Tj.setTop (mkF m 52 #[.val (.int p0), .val (.int p1), .val (.int p2), .val (.int v3), .val (.int sl), .val (.int l2), .val (.int v41), .unset, .unset, .unset, .unset, .unset, .unset, .unset, .unset, .unset, .unset, .unset, .unset, .unset, .unset] [(.int ((((p0.toUInt32 >>> ((8 : Int32) &&& 31).toUInt32).toInt32) &&& (255 : Int32)).toUInt32.toUInt16.toUInt32.toInt32))])) (fun _ k => XS.i2c Xj.here hx rfl (hb hby at_51) rfl k) ?_
    generalize hv52 : ((((p0.toUInt32 >>> ((8 : Int32) &&& 31).toUInt32).toInt32) &&& (255 : Int32)).toUInt32.toUInt16.toUInt32.toInt32) = v52
    refine own_go (B := Tj.setTop (mkF m 54 #[.val (.int p0), .val (.int p1), .val (.int p2), .val (.int v3), .val (.int sl), .val (.int l2), .val (.int v41), .val (.int v52), .unset, .unset, .unset, .unset, .unset, .unset, .unset, .unset, .unset, .unset, .unset, .unset, .unset] [])) (fun _ k => XS.istore Xj.here hx rfl (hb hby at_52) rfl (l' := #[.val (.int p0), .val (.int p1), .val (.int p2), .val (.int v3), .val (.int sl), .val (.int l2), .val (.int v41), .val (.int v52), .unset, .unset, .unset, .unset, .unset, .unset, .unset, .unset, .unset, .unset, .unset, .unset, .unset]) rfl k) ?_
    refine own_go (B := Tj.setTop (mkF m 55 #[.val (.int p0), .val (.int p1), .val (.int p2), .val (.int v3), .val (.int sl), .val (.int l2), .val (.int v41), .val (.int v52), .unset, .unset, .unset, .unset, .unset, .unset, .unset, .unset, .unset, .unset, .unset, .unset, .unset] [(.int p0)])) (fun _ k => XS.iloadN Xj.here hx rfl (hb hby at_54) rfl k) ?_
    refine own_go (B := Tj.setTop (mkF m 57 #[.val (.int p0), .val (.int p1), .val (.int p2), .val (.int v3), .val (.int sl), .val (.int l2), .val (.int v41), .val (.int v52), .unset, .unset, .unset, .unset, .unset, .unset, .unset, .unset, .unset, .unset, .unset, .unset, .unset] [(.int (16 : Int32)), (.int p0)])) (fun _ k => XS.bipush Xj.here hx rfl (hb hby at_55) k) ?_
    refine own_go (B := Tj.setTop (mkF m 58 #[.val (.int p0), .val (.int p1), .val (.int p2), .val (.int v3), .val (.int sl), .val (.int l2), .val (.int v41), .val (.int v52), .unset, .unset, .unset, .unset, .unset, .unset, .unset, .unset, .unset, .unset, .unset, .unset, .unset] [(.int ((p0.toUInt32 >>> ((16 : Int32) &&& 31).toUInt32).toInt32))])) (fun _ k => XS.iushr Xj.here hx rfl (hb hby at_57) rfl k) ?_
    refine own_go (B := Tj.setTop (mkF m 61 #[.val (.int p0), .val (.int p1), .val (.int p2), .val (.int v3), .val (.int sl), .val (.int l2), .val (.int v41), .val (.int v52), .unset, .unset, .unset, .unset, .unset, .unset, .unset, .unset, .unset, .unset, .unset, .unset, .unset] [(.int (255 : Int32)), (.int ((p0.toUInt32 >>> ((16 : Int32) &&& 31).toUInt32).toInt32))])) (fun _ k => XS.sipush Xj.here hx rfl (hb hby at_58) k) ?_
    refine own_go (B := Tj.setTop (mkF m 62 #[.val (.int p0), .val (.int p1), .val (.int p2), .val (.int v3), .val (.int sl), .val (.int l2), .val (.int v41), .val (.int v52), .unset, .unset, .unset, .unset, .unset, .unset, .unset, .unset, .unset, .unset, .unset, .unset, .unset] [(.int (((p0.toUInt32 >>> ((16 : Int32) &&& 31).toUInt32).toInt32) &&& (255 : Int32)))])) (fun _ k => XS.iand Xj.here hx rfl (hb hby at_61) rfl k) ?_
    refine own_go (B := Tj.setTop (mkF m 63 #[.val (.int p0), .val (.int p1), .val (.int p2), .val (.int v3), .val (.int sl), .val (.int l2), .val (.int v41), .val (.int v52), .unset, .unset, .unset, .unset, .unset, .unset, .unset, .unset, .unset, .unset, .unset, .unset, .unset] [(.int ((((p0.toUInt32 >>> ((16 : Int32) &&& 31).toUInt32).toInt32) &&& (255 : Int32)).toUInt32.toUInt16.toUInt32.toInt32))])) (fun _ k => XS.i2c Xj.here hx rfl (hb hby at_62) rfl k) ?_
    generalize hv63 : ((((p0.toUInt32 >>> ((16 : Int32) &&& 31).toUInt32).toInt32) &&& (255 : Int32)).toUInt32.toUInt16.toUInt32.toInt32) = v63
    refine own_go (B := Tj.setTop (mkF m 65 #[.val (.int p0), .val (.int p1), .val (.int p2), .val (.int v3), .val (.int sl), .val (.int l2), .val (.int v41), .val (.int v52), .val (.int v63), .unset, .unset, .unset, .unset, .unset, .unset, .unset, .unset, .unset, .unset, .unset, .unset] [])) (fun _ k => XS.istore Xj.here hx rfl (hb hby at_63) rfl (l' := #[.val (.int p0), .val (.int p1), .val (.int p2), .val (.int v3), .val (.int sl), .val (.int l2), .val (.int v41), .val (.int v52), .val (.int v63), .unset, .unset, .unset, .unset, .unset, .unset, .unset, .unset, .unset, .unset, .unset, .unset]) rfl k) ?_
    have jn84 : ∀ (Tj : State) (Lj84 : List Loc) (Xj : Stand p l e room_1 s m #[(.int p0), (.int p1), (.int p2)] below meth c Tj Lj84 0 0) (Nj84 : Fr n0 Lj84) (ej : Tj.heap = h0) (x0 : Int32) (hx0 : own_rg x0), own_Go p e below (fun o U' => ∃ v L, o = .returned v ∧ Q_rm0 Z zC fm p0 p1 p2 h0 n0 v U'.heap L ∧ CHr Z own_EL s.vm s.heap U'.vm U'.heap ∧ ReturnedEndW s o U' L room_1.cells room_1.slots) (Tj.setTop (mkF m 84 #[.val (.int p0), .val (.int p1), .val (.int p2), .val (.int v3), .val (.int sl), .val (.int l2), .val (.int v41), .val (.int v52), .val (.int v63), .val (.int x0), .unset, .unset, .unset, .unset, .unset, .unset, .unset, .unset, .unset, .unset, .unset] [])) := by
      intro Tj Lj84 Xj Nj84 ej x0 hx0
      have jn107 : ∀ (Tj : State) (Lj107 : List Loc) (Xj : Stand p l e room_1 s m #[(.int p0), (.int p1), (.int p2)] below meth c Tj Lj107 0 0) (Nj107 : Fr n0 Lj107) (ej : Tj.heap = h0) (x1 : Int32) (hx1 : own_rg x1), own_Go p e below (fun o U' => ∃ v L, o = .returned v ∧ Q_rm0 Z zC fm p0 p1 p2 h0 n0 v U'.heap L ∧ CHr Z own_EL s.vm s.heap U'.vm U'.heap ∧ ReturnedEndW s o U' L room_1.cells room_1.slots) (Tj.setTop (mkF m 107 #[.val (.int p0), .val (.int p1), .val (.int p2), .val (.int v3), .val (.int sl), .val (.int l2), .val (.int v41), .val (.int v52), .val (.int v63), .val (.int x0), .val (.int x1), .unset, .unset, .unset, .unset, .unset, .unset, .unset, .unset, .unset, .unset] [])) := by
        intro Tj Lj107 Xj Nj107 ej x1 hx1
        have jn130 : ∀ (Tj : State) (Lj130 : List Loc) (Xj : Stand p l e room_1 s m #[(.int p0), (.int p1), (.int p2)] below meth c Tj Lj130 0 0) (Nj130 : Fr n0 Lj130) (ej : Tj.heap = h0) (x2 : Int32) (hx2 : own_rg x2), own_Go p e below (fun o U' => ∃ v L, o = .returned v ∧ Q_rm0 Z zC fm p0 p1 p2 h0 n0 v U'.heap L ∧ CHr Z own_EL s.vm s.heap U'.vm U'.heap ∧ ReturnedEndW s o U' L room_1.cells room_1.slots) (Tj.setTop (mkF m 130 #[.val (.int p0), .val (.int p1), .val (.int p2), .val (.int v3), .val (.int sl), .val (.int l2), .val (.int v41), .val (.int v52), .val (.int v63), .val (.int x0), .val (.int x1), .val (.int x2), .unset, .unset, .unset, .unset, .unset, .unset, .unset, .unset, .unset] [])) := by
          intro Tj Lj130 Xj Nj130 ej x2 hx2
          refine own_go (B := Tj.setTop (mkF m 132 #[.val (.int p0), .val (.int p1), .val (.int p2), .val (.int v3), .val (.int sl), .val (.int l2), .val (.int v41), .val (.int v52), .val (.int v63), .val (.int x0), .val (.int x1), .val (.int x2), .unset, .unset, .unset, .unset, .unset, .unset, .unset, .unset, .unset] [(.int v41)])) (fun _ k => XS.iload Xj.here hx rfl (hb hby at_130) rfl k) ?_
          refine own_go (B := Tj.setTop (mkF m 134 #[.val (.int p0), .val (.int p1), .val (.int p2), .val (.int v3), .val (.int sl), .val (.int l2), .val (.int v41), .val (.int v52), .val (.int v63), .val (.int x0), .val (.int x1), .val (.int x2), .unset, .unset, .unset, .unset, .unset, .unset, .unset, .unset, .unset] [(.int x0), (.int v41)])) (fun _ k => XS.iload Xj.here hx rfl (hb hby at_132) rfl k) ?_
          refine own_go (B := Tj.setTop (mkF m 135 #[.val (.int p0), .val (.int p1), .val (.int p2), .val (.int v3), .val (.int sl), .val (.int l2), .val (.int v41), .val (.int v52), .val (.int v63), .val (.int x0), .val (.int x1), .val (.int x2), .unset, .unset, .unset, .unset, .unset, .unset, .unset, .unset, .unset] [(.int (v41 ^^^ x0))])) (fun _ k => XS.ixor Xj.here hx rfl (hb hby at_134) rfl k) ?_
          refine own_go (B := Tj.setTop (mkF m 136 #[.val (.int p0), .val (.int p1), .val (.int p2), .val (.int v3), .val (.int sl), .val (.int l2), .val (.int v41), .val (.int v52), .val (.int v63), .val (.int x0), .val (.int x1), .val (.int x2), .unset, .unset, .unset, .unset, .unset, .unset, .unset, .unset, .unset] [(.int ((v41 ^^^ x0).toUInt32.toUInt16.toUInt32.toInt32))])) (fun _ k => XS.i2c Xj.here hx rfl (hb hby at_135) rfl k) ?_
          generalize hv136 : ((v41 ^^^ x0).toUInt32.toUInt16.toUInt32.toInt32) = v136
          refine own_go (B := Tj.setTop (mkF m 138 #[.val (.int p0), .val (.int p1), .val (.int p2), .val (.int v3), .val (.int sl), .val (.int l2), .val (.int v41), .val (.int v52), .val (.int v63), .val (.int x0), .val (.int x1), .val (.int x2), .val (.int v136), .unset, .unset, .unset, .unset, .unset, .unset, .unset, .unset] [])) (fun _ k => XS.istore Xj.here hx rfl (hb hby at_136) rfl (l' := #[.val (.int p0), .val (.int p1), .val (.int p2), .val (.int v3), .val (.int sl), .val (.int l2), .val (.int v41), .val (.int v52), .val (.int v63), .val (.int x0), .val (.int x1), .val (.int x2), .val (.int v136), .unset, .unset, .unset, .unset, .unset, .unset, .unset, .unset]) rfl k) ?_
          refine own_go (B := Tj.setTop (mkF m 140 #[.val (.int p0), .val (.int p1), .val (.int p2), .val (.int v3), .val (.int sl), .val (.int l2), .val (.int v41), .val (.int v52), .val (.int v63), .val (.int x0), .val (.int x1), .val (.int x2), .val (.int v136), .unset, .unset, .unset, .unset, .unset, .unset, .unset, .unset] [(.int v52)])) (fun _ k => XS.iload Xj.here hx rfl (hb hby at_138) rfl k) ?_
          refine own_go (B := Tj.setTop (mkF m 142 #[.val (.int p0), .val (.int p1), .val (.int p2), .val (.int v3), .val (.int sl), .val (.int l2), .val (.int v41), .val (.int v52), .val (.int v63), .val (.int x0), .val (.int x1), .val (.int x2), .val (.int v136), .unset, .unset, .unset, .unset, .unset, .unset, .unset, .unset] [(.int x1), (.int v52)])) (fun _ k => XS.iload Xj.here hx rfl (hb hby at_140) rfl k) ?_
          refine own_go (B := Tj.setTop (mkF m 143 #[.val (.int p0), .val (.int p1), .val (.int p2), .val (.int v3), .val (.int sl), .val (.int l2), .val (.int v41), .val (.int v52), .val (.int v63), .val (.int x0), .val (.int x1), .val (.int x2), .val (.int v136), .unset, .unset, .unset, .unset, .unset, .unset, .unset, .unset] [(.int (v52 ^^^ x1))])) (fun _ k => XS.ixor Xj.here hx rfl (hb hby at_142) rfl k) ?_
          refine own_go (B := Tj.setTop (mkF m 144 #[.val (.int p0), .val (.int p1), .val (.int p2), .val (.int v3), .val (.int sl), .val (.int l2), .val (.int v41), .val (.int v52), .val (.int v63), .val (.int x0), .val (.int x1), .val (.int x2), .val (.int v136), .unset, .unset, .unset, .unset, .unset, .unset, .unset, .unset] [(.int ((v52 ^^^ x1).toUInt32.toUInt16.toUInt32.toInt32))])) (fun _ k => XS.i2c Xj.here hx rfl (hb hby at_143) rfl k) ?_
          generalize hv144 : ((v52 ^^^ x1).toUInt32.toUInt16.toUInt32.toInt32) = v144
          refine own_go (B := Tj.setTop (mkF m 146 #[.val (.int p0), .val (.int p1), .val (.int p2), .val (.int v3), .val (.int sl), .val (.int l2), .val (.int v41), .val (.int v52), .val (.int v63), .val (.int x0), .val (.int x1), .val (.int x2), .val (.int v136), .val (.int v144), .unset, .unset, .unset, .unset, .unset, .unset, .unset] [])) (fun _ k => XS.istore Xj.here hx rfl (hb hby at_144) rfl (l' := #[.val (.int p0), .val (.int p1), .val (.int p2), .val (.int v3), .val (.int sl), .val (.int l2), .val (.int v41), .val (.int v52), .val (.int v63), .val (.int x0), .val (.int x1), .val (.int x2), .val (.int v136), .val (.int v144), .unset, .unset, .unset, .unset, .unset, .unset, .unset]) rfl k) ?_
          refine own_go (B := Tj.setTop (mkF m 148 #[.val (.int p0), .val (.int p1), .val (.int p2), .val (.int v3), .val (.int sl), .val (.int l2), .val (.int v41), .val (.int v52), .val (.int v63), .val (.int x0), .val (.int x1), .val (.int x2), .val (.int v136), .val (.int v144), .unset, .unset, .unset, .unset, .unset, .unset, .unset] [(.int v63)])) (fun _ k => XS.iload Xj.here hx rfl (hb hby at_146) rfl k) ?_
          refine own_go (B := Tj.setTop (mkF m 150 #[.val (.int p0), .val (.int p1), .val (.int p2), .val (.int v3), .val (.int sl), .val (.int l2), .val (.int v41), .val (.int v52), .val (.int v63), .val (.int x0), .val (.int x1), .val (.int x2), .val (.int v136), .val (.int v144), .unset, .unset, .unset, .unset, .unset, .unset, .unset] [(.int x2), (.int v63)])) (fun _ k => XS.iload Xj.here hx rfl (hb hby at_148) rfl k) ?_
          refine own_go (B := Tj.setTop (mkF m 151 #[.val (.int p0), .val (.int p1), .val (.int p2), .val (.int v3), .val (.int sl), .val (.int l2), .val (.int v41), .val (.int v52), .val (.int v63), .val (.int x0), .val (.int x1), .val (.int x2), .val (.int v136), .val (.int v144), .unset, .unset, .unset, .unset, .unset, .unset, .unset] [(.int (v63 ^^^ x2))])) (fun _ k => XS.ixor Xj.here hx rfl (hb hby at_150) rfl k) ?_
          refine own_go (B := Tj.setTop (mkF m 152 #[.val (.int p0), .val (.int p1), .val (.int p2), .val (.int v3), .val (.int sl), .val (.int l2), .val (.int v41), .val (.int v52), .val (.int v63), .val (.int x0), .val (.int x1), .val (.int x2), .val (.int v136), .val (.int v144), .unset, .unset, .unset, .unset, .unset, .unset, .unset] [(.int ((v63 ^^^ x2).toUInt32.toUInt16.toUInt32.toInt32))])) (fun _ k => XS.i2c Xj.here hx rfl (hb hby at_151) rfl k) ?_
          generalize hv152 : ((v63 ^^^ x2).toUInt32.toUInt16.toUInt32.toInt32) = v152
          refine own_go (B := Tj.setTop (mkF m 154 #[.val (.int p0), .val (.int p1), .val (.int p2), .val (.int v3), .val (.int sl), .val (.int l2), .val (.int v41), .val (.int v52), .val (.int v63), .val (.int x0), .val (.int x1), .val (.int x2), .val (.int v136), .val (.int v144), .val (.int v152), .unset, .unset, .unset, .unset, .unset, .unset] [])) (fun _ k => XS.istore Xj.here hx rfl (hb hby at_152) rfl (l' := #[.val (.int p0), .val (.int p1), .val (.int p2), .val (.int v3), .val (.int sl), .val (.int l2), .val (.int v41), .val (.int v52), .val (.int v63), .val (.int x0), .val (.int x1), .val (.int x2), .val (.int v136), .val (.int v144), .val (.int v152), .unset, .unset, .unset, .unset, .unset, .unset]) rfl k) ?_
          refine own_go (B := Tj.setTop (mkF m 155 #[.val (.int p0), .val (.int p1), .val (.int p2), .val (.int v3), .val (.int sl), .val (.int l2), .val (.int v41), .val (.int v52), .val (.int v63), .val (.int x0), .val (.int x1), .val (.int x2), .val (.int v136), .val (.int v144), .val (.int v152), .unset, .unset, .unset, .unset, .unset, .unset] [(.int v3)])) (fun _ k => XS.iloadN Xj.here hx rfl (hb hby at_154) rfl k) ?_
          refine own_go (B := Tj.setTop (mkF m 157 #[.val (.int p0), .val (.int p1), .val (.int p2), .val (.int v3), .val (.int sl), .val (.int l2), .val (.int v41), .val (.int v52), .val (.int v63), .val (.int x0), .val (.int x1), .val (.int x2), .val (.int v136), .val (.int v144), .val (.int v152), .unset, .unset, .unset, .unset, .unset, .unset] [(.int v41), (.int v3)])) (fun _ k => XS.iload Xj.here hx rfl (hb hby at_155) rfl k) ?_
          refine own_go (B := Tj.setTop (mkF m 159 #[.val (.int p0), .val (.int p1), .val (.int p2), .val (.int v3), .val (.int sl), .val (.int l2), .val (.int v41), .val (.int v52), .val (.int v63), .val (.int x0), .val (.int x1), .val (.int x2), .val (.int v136), .val (.int v144), .val (.int v152), .unset, .unset, .unset, .unset, .unset, .unset] [(.int v52), (.int v41), (.int v3)])) (fun _ k => XS.iload Xj.here hx rfl (hb hby at_157) rfl k) ?_
          refine own_go (B := Tj.setTop (mkF m 161 #[.val (.int p0), .val (.int p1), .val (.int p2), .val (.int v3), .val (.int sl), .val (.int l2), .val (.int v41), .val (.int v52), .val (.int v63), .val (.int x0), .val (.int x1), .val (.int x2), .val (.int v136), .val (.int v144), .val (.int v152), .unset, .unset, .unset, .unset, .unset, .unset] [(.int v63), (.int v52), (.int v41), (.int v3)])) (fun _ k => XS.iload Xj.here hx rfl (hb hby at_159) rfl k) ?_
          obtain ⟨_, _, ⟨T105, L105, k105, n105⟩, -, X105, SN105, gr105, ⟨Lc105, hQ105, l105, y105, z105, CRq105⟩, st105⟩ := callSS Xj hx (y := (⟨"com/example/facts_from_rules/factsfromrules/VariableEqualsPinLaw", "mk", "(ICCC)Ljava/lang/String;"⟩ : MethodName)) hown (mvT hZ (hw _ (List.mem_of_getElem? (i := 0) rfl))) (mvT hZ (hw _ (List.mem_of_getElem? (i := 1) rfl))) (mvT hZ (hw _ (List.mem_of_getElem? (i := 2) rfl))) (mvT hZ (hw _ (List.mem_of_getElem? (i := 3) rfl))) (by decide) (own_backSH (s := s) (vm0 := s.vm) (SL := []) (W := 0) (rm1 l Z a0 hw [] zC fm G v3 v41 v52 v63 h0 n0 (Nat.le_trans Z0 K0.1) O0 (by rw [← hv41, own_i2c]; exact own_m255 _) (by rw [← hv52, own_i2c]; exact own_m255 _) (by rw [← hv63, own_i2c]; exact own_m255 _)) hZ (hw _ (List.mem_of_getElem? (i := 3) rfl)) (hw _ (List.mem_of_getElem? (i := 2) rfl)) (by decide) (by decide) hEL CH0 all0) (g := (mkF m 161 #[.val (.int p0), .val (.int p1), .val (.int p2), .val (.int v3), .val (.int sl), .val (.int l2), .val (.int v41), .val (.int v52), .val (.int v63), .val (.int x0), .val (.int x1), .val (.int x2), .val (.int v136), .val (.int v144), .val (.int v152), .unset, .unset, .unset, .unset, .unset, .unset] [(.int v63), (.int v52), (.int v41), (.int v3)])) rfl (by rw [hml]; rfl) (argsL := [(.int v3), (.int v41), (.int v52), (.int v63)]) (rest := []) (lenOf pd_3 rfl) rfl (by show 2 * 0 + _ ≤ _; exact Nat.le_of_eq rfl) (hb hby at_161) (fun _ _ => ⟨rfl, ej, (by decide : 0 + 6 ≤ 32), (by decide : 0 + 12 ≤ 1152)⟩)
          dsimp only [Pt.U, Pt.locs, Pt.cells, Pt.slots] at X105 l105 y105 z105 st105 hQ105 SN105 gr105 CRq105
          subst l105 y105 z105
          obtain ⟨X105, SN105, hZ, hown⟩ := rebS (s := s) (vm0 := s.vm) S0 (by rw [ej]; exact (Nat.zero_le _)) X105 SN105 gr105 hZ hown
          have CH105 := CRq105.1
          have CR105 := CR0.trans CRq105
          obtain ⟨r_105, rfl, N105q, K105, fr_105, Str_105⟩ := hQ105
          have g_r_105 : n0 ≤ r_105 := Nat.le_trans (Nat.le_trans Z0 K0.1) fr_105
          have sz_r_105 : h0.size ≤ r_105 := Nat.le_trans K0.1 fr_105
          have N105 := Fr.app Nj130 N105q
          have O105 := O0.keep K105 all0
          have K105' : Keep h0 T105.heap ([] : List Addr) := K0.trans K105 all0
          obtain ⟨t106, kb106, Nb106, vs106, Es106, Fv106, Fc106, Vb106, cd106, rg106, ln106⟩ := Str_105
          refine own_go (B := T105.setTop (mkF m 164 #[.val (.int p0), .val (.int p1), .val (.int p2), .val (.int v3), .val (.int sl), .val (.int l2), .val (.int v41), .val (.int v52), .val (.int v63), .val (.int x0), .val (.int x1), .val (.int x2), .val (.int v136), .val (.int v144), .val (.int v152), .unset, .unset, .unset, .unset, .unset, .unset] [(.ref r_105)])) (fun _ k => st105.trans k) ?_
          refine own_go (B := T105.setTop (mkF m 166 #[.val (.int p0), .val (.int p1), .val (.int p2), .val (.int v3), .val (.int sl), .val (.int l2), .val (.int v41), .val (.int v52), .val (.int v63), .val (.int x0), .val (.int x1), .val (.int x2), .val (.int v136), .val (.int v144), .val (.int v152), .val (.ref r_105), .unset, .unset, .unset, .unset, .unset] [])) (fun _ k => XS.astore X105.here hx rfl (hb hby at_164) rfl rfl (l' := #[.val (.int p0), .val (.int p1), .val (.int p2), .val (.int v3), .val (.int sl), .val (.int l2), .val (.int v41), .val (.int v52), .val (.int v63), .val (.int x0), .val (.int x1), .val (.int x2), .val (.int v136), .val (.int v144), .val (.int v152), .val (.ref r_105), .unset, .unset, .unset, .unset, .unset]) rfl k) ?_
          refine own_go (B := T105.setTop (mkF m 168 #[.val (.int p0), .val (.int p1), .val (.int p2), .val (.int v3), .val (.int sl), .val (.int l2), .val (.int v41), .val (.int v52), .val (.int v63), .val (.int x0), .val (.int x1), .val (.int x2), .val (.int v136), .val (.int v144), .val (.int v152), .val (.ref r_105), .unset, .unset, .unset, .unset, .unset] [(.int l2)])) (fun _ k => XS.iload X105.here hx rfl (hb hby at_166) rfl k) ?_
          refine own_go (B := T105.setTop (mkF m 170 #[.val (.int p0), .val (.int p1), .val (.int p2), .val (.int v3), .val (.int sl), .val (.int l2), .val (.int v41), .val (.int v52), .val (.int v63), .val (.int x0), .val (.int x1), .val (.int x2), .val (.int v136), .val (.int v144), .val (.int v152), .val (.ref r_105), .unset, .unset, .unset, .unset, .unset] [(.int v136), (.int l2)])) (fun _ k => XS.iload X105.here hx rfl (hb hby at_168) rfl k) ?_
          refine own_go (B := T105.setTop (mkF m 172 #[.val (.int p0), .val (.int p1), .val (.int p2), .val (.int v3), .val (.int sl), .val (.int l2), .val (.int v41), .val (.int v52), .val (.int v63), .val (.int x0), .val (.int x1), .val (.int x2), .val (.int v136), .val (.int v144), .val (.int v152), .val (.ref r_105), .unset, .unset, .unset, .unset, .unset] [(.int v144), (.int v136), (.int l2)])) (fun _ k => XS.iload X105.here hx rfl (hb hby at_170) rfl k) ?_
          refine own_go (B := T105.setTop (mkF m 174 #[.val (.int p0), .val (.int p1), .val (.int p2), .val (.int v3), .val (.int sl), .val (.int l2), .val (.int v41), .val (.int v52), .val (.int v63), .val (.int x0), .val (.int x1), .val (.int x2), .val (.int v136), .val (.int v144), .val (.int v152), .val (.ref r_105), .unset, .unset, .unset, .unset, .unset] [(.int v152), (.int v144), (.int v136), (.int l2)])) (fun _ k => XS.iload X105.here hx rfl (hb hby at_172) rfl k) ?_
          obtain ⟨_, _, ⟨T107, L107, k107, n107⟩, -, X107, SN107, gr107, ⟨Lc107, hQ107, l107, y107, z107, CRq107⟩, st107⟩ := callSS X105 hx (y := (⟨"com/example/facts_from_rules/factsfromrules/VariableEqualsPinLaw", "mk", "(ICCC)Ljava/lang/String;"⟩ : MethodName)) hown (mvT hZ (hw _ (List.mem_of_getElem? (i := 0) rfl))) (mvT hZ (hw _ (List.mem_of_getElem? (i := 1) rfl))) (mvT hZ (hw _ (List.mem_of_getElem? (i := 2) rfl))) (mvT hZ (hw _ (List.mem_of_getElem? (i := 3) rfl))) (by decide) (own_backSH (s := s) (vm0 := T105.vm) (SL := []) (W := 0) (rm1 l Z a0 hw [] zC fm G l2 v136 v144 v152 T105.heap n0 (Nat.le_trans Z0 K105'.1) O105 (by rw [← hv136]; exact own_xor _ _ (by rw [← hv41, own_i2c]; exact own_m255 _) hx0) (by rw [← hv144]; exact own_xor _ _ (by rw [← hv52, own_i2c]; exact own_m255 _) hx1) (by rw [← hv152]; exact own_xor _ _ (by rw [← hv63, own_i2c]; exact own_m255 _) hx2)) hZ (hw _ (List.mem_of_getElem? (i := 3) rfl)) (hw _ (List.mem_of_getElem? (i := 2) rfl)) (by decide) (by decide) hEL CH105 all0) (g := (mkF m 174 #[.val (.int p0), .val (.int p1), .val (.int p2), .val (.int v3), .val (.int sl), .val (.int l2), .val (.int v41), .val (.int v52), .val (.int v63), .val (.int x0), .val (.int x1), .val (.int x2), .val (.int v136), .val (.int v144), .val (.int v152), .val (.ref r_105), .unset, .unset, .unset, .unset, .unset] [(.int v152), (.int v144), (.int v136), (.int l2)])) rfl (by rw [hml]; rfl) (argsL := [(.int l2), (.int v136), (.int v144), (.int v152)]) (rest := []) (lenOf pd_3 rfl) rfl (by show 2 * 0 + _ ≤ _; exact Nat.le_of_eq rfl) (hb hby at_174) (fun _ _ => ⟨rfl, rfl, (by decide : 6 + 6 ≤ 32), (by decide : 12 + 12 ≤ 1152)⟩)
          dsimp only [Pt.U, Pt.locs, Pt.cells, Pt.slots] at X107 l107 y107 z107 st107 hQ107 SN107 gr107 CRq107
          subst l107 y107 z107
          obtain ⟨X107, SN107, hZ, hown⟩ := rebS (s := s) (vm0 := T105.vm) SN105 (Nat.le_refl _) X107 SN107 gr107 hZ hown
          have CH107 := CRq107.1
          have CR107 := CR105.trans CRq107
          obtain ⟨r_107, rfl, N107q, K107, fr_107, Str_107⟩ := hQ107
          have ne107_1_fr_107 : r_105 ≠ r_107 := Nat.ne_of_lt (Nat.lt_of_lt_of_le Es106.lt fr_107)
          have ne107_2_fr_107 : t106 ≠ r_107 := Nat.ne_of_lt (Nat.lt_of_lt_of_le Vb106.lt fr_107)
          have g_r_107 : n0 ≤ r_107 := Nat.le_trans (Nat.le_trans Z0 K105'.1) fr_107
          have sz_r_107 : h0.size ≤ r_107 := Nat.le_trans K105'.1 fr_107
          have N107 := Fr.app N105 N107q
          have O107 := O105.keep K107 all0
          have K107' : Keep h0 T107.heap ([] : List Addr) := K105'.trans K107 all0
          obtain ⟨t108, kb108, Nb108, vs108, Es108, Fv108, Fc108, Vb108, cd108, rg108, ln108⟩ := Str_107
          refine own_go (B := T107.setTop (mkF m 177 #[.val (.int p0), .val (.int p1), .val (.int p2), .val (.int v3), .val (.int sl), .val (.int l2), .val (.int v41), .val (.int v52), .val (.int v63), .val (.int x0), .val (.int x1), .val (.int x2), .val (.int v136), .val (.int v144), .val (.int v152), .val (.ref r_105), .unset, .unset, .unset, .unset, .unset] [(.ref r_107)])) (fun _ k => st107.trans k) ?_
          refine own_go (B := T107.setTop (mkF m 179 #[.val (.int p0), .val (.int p1), .val (.int p2), .val (.int v3), .val (.int sl), .val (.int l2), .val (.int v41), .val (.int v52), .val (.int v63), .val (.int x0), .val (.int x1), .val (.int x2), .val (.int v136), .val (.int v144), .val (.int v152), .val (.ref r_105), .val (.ref r_107), .unset, .unset, .unset, .unset] [])) (fun _ k => XS.astore X107.here hx rfl (hb hby at_177) rfl rfl (l' := #[.val (.int p0), .val (.int p1), .val (.int p2), .val (.int v3), .val (.int sl), .val (.int l2), .val (.int v41), .val (.int v52), .val (.int v63), .val (.int x0), .val (.int x1), .val (.int x2), .val (.int v136), .val (.int v144), .val (.int v152), .val (.ref r_105), .val (.ref r_107), .unset, .unset, .unset, .unset]) rfl k) ?_
          obtain ⟨T109, h109, X109, e109, E109, A109, D109, -, st109⟩ := newO X107 hx hZ hown (hw _ (List.mem_of_getElem? (i := 37) rfl)) (hw _ (List.mem_of_getElem? (i := 38) rfl)) (hw _ (List.mem_of_getElem? (i := 39) rfl)) rfl (g := (mkF m 179 #[.val (.int p0), .val (.int p1), .val (.int p2), .val (.int v3), .val (.int sl), .val (.int l2), .val (.int v41), .val (.int v52), .val (.int v63), .val (.int x0), .val (.int x1), .val (.int x2), .val (.int v136), .val (.int v144), .val (.int v152), .val (.ref r_105), .val (.ref r_107), .unset, .unset, .unset, .unset] [])) rfl (hb hby at_179) (by decide) (by decide)
          obtain ⟨b109, g109⟩ : ∃ z, z = T107.heap.size := ⟨_, rfl⟩
          rw [← g109] at A109 D109 st109
          have g_b109 : n0 ≤ b109 := Nat.le_trans (Nat.le_trans Z0 K107'.1) (Nat.le_of_eq g109.symm)
          have sz_b109 : h0.size ≤ b109 := Nat.le_trans K107'.1 (Nat.le_of_eq g109.symm)
          have ne109_1 : r_105 ≠ b109 := Nat.ne_of_lt (Nat.lt_of_lt_of_le (Es106.keep K107).lt (Nat.le_of_eq g109.symm))
          have ne109_2 : t106 ≠ b109 := Nat.ne_of_lt (Nat.lt_of_lt_of_le (Vb106.keep K107 nin0).lt (Nat.le_of_eq g109.symm))
          have ne109_3 : r_107 ≠ b109 := Nat.ne_of_lt (Nat.lt_of_lt_of_le Es108.lt (Nat.le_of_eq g109.symm))
          have ne109_4 : t108 ≠ b109 := Nat.ne_of_lt (Nat.lt_of_lt_of_le Vb108.lt (Nat.le_of_eq g109.symm))
          have CH109 := CHv.ext E109 CH107
          have CR109 := CR107.trans (CHr.ext E109 CH107)
          have Sf_b109 := Safe.ext E109 CH107 (Safe.new (Nat.le_of_eq g109.symm))
          have O109 := O107.ext E109
          have K109' : Keep h0 h109 ([] : List Addr) := K107'.ext E109
          have F_name_b109 : Fld Z h109 b109 "com/example/facts_from_rules/factsfromrules/Variable" "name" "Ljava/lang/String;" .null := D109 (Or.inr (hw _ (List.mem_of_getElem? (i := 45) rfl))) (ty := (.object "java/lang/String")) (by decide)
          refine own_go (B := T109.setTop (mkF m 182 #[.val (.int p0), .val (.int p1), .val (.int p2), .val (.int v3), .val (.int sl), .val (.int l2), .val (.int v41), .val (.int v52), .val (.int v63), .val (.int x0), .val (.int x1), .val (.int x2), .val (.int v136), .val (.int v144), .val (.int v152), .val (.ref r_105), .val (.ref r_107), .unset, .unset, .unset, .unset] [(.ref b109)])) (st109) ?_
          refine own_go (B := T109.setTop (mkF m 183 #[.val (.int p0), .val (.int p1), .val (.int p2), .val (.int v3), .val (.int sl), .val (.int l2), .val (.int v41), .val (.int v52), .val (.int v63), .val (.int x0), .val (.int x1), .val (.int x2), .val (.int v136), .val (.int v144), .val (.int v152), .val (.ref r_105), .val (.ref r_107), .unset, .unset, .unset, .unset] [(.ref b109), (.ref b109)])) (fun _ k => XS.dup X109.here hx rfl (hb hby at_182) rfl rfl k) ?_
          refine own_go (B := T109.setTop (mkF m 185 #[.val (.int p0), .val (.int p1), .val (.int p2), .val (.int v3), .val (.int sl), .val (.int l2), .val (.int v41), .val (.int v52), .val (.int v63), .val (.int x0), .val (.int x1), .val (.int x2), .val (.int v136), .val (.int v144), .val (.int v152), .val (.ref r_105), .val (.ref r_107), .unset, .unset, .unset, .unset] [(.ref r_105), (.ref b109), (.ref b109)])) (fun _ k => XS.aload X109.here hx rfl (hb hby at_183) rfl rfl k) ?_
          obtain ⟨_, _, ⟨T110, L110, k110, n110⟩, -, X110, ⟨Lc110, hQ110, l110, y110, z110⟩, st110⟩ := X109.specialBack hx (y := (⟨"com/example/facts_from_rules/factsfromrules/Variable", "<init>", "(Ljava/lang/String;)V"⟩ : MethodName)) rfl hown (mvT hZ (hw _ (List.mem_of_getElem? (i := 40) rfl))) (mvT hZ (hw _ (List.mem_of_getElem? (i := 41) rfl))) (mvT hZ (hw _ (List.mem_of_getElem? (i := 42) rfl))) (by decide) (backOf (W := 1) (rm8 l Z a0 hw [] zC fm G b109 r_105 h109 n0 (Nat.le_trans Z0 K109'.1) O109 A109 F_name_b109 g_b109) hZ (hw _ (List.mem_of_getElem? (i := 42) rfl)) (hw _ (List.mem_of_getElem? (i := 39) rfl)) (by decide) (by decide)) (g := (mkF m 185 #[.val (.int p0), .val (.int p1), .val (.int p2), .val (.int v3), .val (.int sl), .val (.int l2), .val (.int v41), .val (.int v52), .val (.int v63), .val (.int x0), .val (.int x1), .val (.int x2), .val (.int v136), .val (.int v144), .val (.int v152), .val (.ref r_105), .val (.ref r_107), .unset, .unset, .unset, .unset] [(.ref r_105), (.ref b109), (.ref b109)])) rfl (by rw [hml]; rfl) (Steps.refl _) (a := b109) (argsL := [(.ref r_105)]) (rest := [(.ref b109)]) (lenOf pd_4 rfl) rfl (by show 2 * 0 + _ ≤ _; exact Nat.le_of_eq rfl) (hb hby at_185) (fun _ _ => ⟨rfl, e109, (by decide : 13 + 0 ≤ 32), (by decide : 25 + 0 ≤ 1152)⟩)
          dsimp only [Pt.U, Pt.locs, Pt.cells, Pt.slots] at X110 l110 y110 z110 st110 hQ110
          subst l110 y110 z110
          obtain ⟨rfl, N110q, K110, F_110⟩ := hQ110
          have N110 := Fr.app N107 N110q
          have CH110 := CHv.keep K110 (sfS Sf_b109 sf0) CH109
          have CR110 := CR109.trans (CHr.keep K110 (sfS Sf_b109 sf0) CH109)
          have O110 := O109.keep K110 (allS g_b109 all0)
          have K110' : Keep h0 T110.heap ([] : List Addr) := K109'.trans K110 (allS (Or.inr sz_b109) all0)
          refine own_go (B := T110.setTop (mkF m 188 #[.val (.int p0), .val (.int p1), .val (.int p2), .val (.int v3), .val (.int sl), .val (.int l2), .val (.int v41), .val (.int v52), .val (.int v63), .val (.int x0), .val (.int x1), .val (.int x2), .val (.int v136), .val (.int v144), .val (.int v152), .val (.ref r_105), .val (.ref r_107), .unset, .unset, .unset, .unset] [(.ref b109)])) (fun _ k => st110.trans k) ?_
          refine own_go (B := T110.setTop (mkF m 190 #[.val (.int p0), .val (.int p1), .val (.int p2), .val (.int v3), .val (.int sl), .val (.int l2), .val (.int v41), .val (.int v52), .val (.int v63), .val (.int x0), .val (.int x1), .val (.int x2), .val (.int v136), .val (.int v144), .val (.int v152), .val (.ref r_105), .val (.ref r_107), .val (.ref b109), .unset, .unset, .unset] [])) (fun _ k => XS.astore X110.here hx rfl (hb hby at_188) rfl rfl (l' := #[.val (.int p0), .val (.int p1), .val (.int p2), .val (.int v3), .val (.int sl), .val (.int l2), .val (.int v41), .val (.int v52), .val (.int v63), .val (.int x0), .val (.int x1), .val (.int x2), .val (.int v136), .val (.int v144), .val (.int v152), .val (.ref r_105), .val (.ref r_107), .val (.ref b109), .unset, .unset, .unset]) rfl k) ?_
          refine own_go (B := T110.setTop (mkF m 191 #[.val (.int p0), .val (.int p1), .val (.int p2), .val (.int v3), .val (.int sl), .val (.int l2), .val (.int v41), .val (.int v52), .val (.int v63), .val (.int x0), .val (.int x1), .val (.int x2), .val (.int v136), .val (.int v144), .val (.int v152), .val (.ref r_105), .val (.ref r_107), .val (.ref b109), .unset, .unset, .unset] [(.int p2)])) (fun _ k => XS.iloadN X110.here hx rfl (hb hby at_190) rfl k) ?_
          refine own_go (B := T110.setTop (mkF m 193 #[.val (.int p0), .val (.int p1), .val (.int p2), .val (.int v3), .val (.int sl), .val (.int l2), .val (.int v41), .val (.int v52), .val (.int v63), .val (.int x0), .val (.int x1), .val (.int x2), .val (.int v136), .val (.int v144), .val (.int v152), .val (.ref r_105), .val (.ref r_107), .val (.ref b109), .unset, .unset, .unset] [(.int (8 : Int32)), (.int p2)])) (fun _ k => XS.bipush X110.here hx rfl (hb hby at_191) k) ?_
          refine own_go (B := T110.setTop (mkF m 194 #[.val (.int p0), .val (.int p1), .val (.int p2), .val (.int v3), .val (.int sl), .val (.int l2), .val (.int v41), .val (.int v52), .val (.int v63), .val (.int x0), .val (.int x1), .val (.int x2), .val (.int v136), .val (.int v144), .val (.int v152), .val (.ref r_105), .val (.ref r_107), .val (.ref b109), .unset, .unset, .unset] [(.int ((p2.toUInt32 >>> ((8 : Int32) &&& 31).toUInt32).toInt32))])) (fun _ k => XS.iushr X110.here hx rfl (hb hby at_193) rfl k) ?_
          refine own_go (B := T110.setTop (mkF m 195 #[.val (.int p0), .val (.int p1), .val (.int p2), .val (.int v3), .val (.int sl), .val (.int l2), .val (.int v41), .val (.int v52), .val (.int v63), .val (.int x0), .val (.int x1), .val (.int x2), .val (.int v136), .val (.int v144), .val (.int v152), .val (.ref r_105), .val (.ref r_107), .val (.ref b109), .unset, .unset, .unset] [(.int (3 : Int32)), (.int ((p2.toUInt32 >>> ((8 : Int32) &&& 31).toUInt32).toInt32))])) (fun _ k => XS.iconst X110.here hx rfl (hb hby at_194) k) ?_
          refine own_go (B := T110.setTop (mkF m 196 #[.val (.int p0), .val (.int p1), .val (.int p2), .val (.int v3), .val (.int sl), .val (.int l2), .val (.int v41), .val (.int v52), .val (.int v63), .val (.int x0), .val (.int x1), .val (.int x2), .val (.int v136), .val (.int v144), .val (.int v152), .val (.ref r_105), .val (.ref r_107), .val (.ref b109), .unset, .unset, .unset] [(.int (((p2.toUInt32 >>> ((8 : Int32) &&& 31).toUInt32).toInt32) &&& (3 : Int32)))])) (fun _ k => XS.iand X110.here hx rfl (hb hby at_195) rfl k) ?_
          generalize hv196 : (((p2.toUInt32 >>> ((8 : Int32) &&& 31).toUInt32).toInt32) &&& (3 : Int32)) = v196
          refine own_go (B := T110.setTop (mkF m 198 #[.val (.int p0), .val (.int p1), .val (.int p2), .val (.int v3), .val (.int sl), .val (.int l2), .val (.int v41), .val (.int v52), .val (.int v63), .val (.int x0), .val (.int x1), .val (.int x2), .val (.int v136), .val (.int v144), .val (.int v152), .val (.ref r_105), .val (.ref r_107), .val (.ref b109), .val (.int v196), .unset, .unset] [])) (fun _ k => XS.istore X110.here hx rfl (hb hby at_196) rfl (l' := #[.val (.int p0), .val (.int p1), .val (.int p2), .val (.int v3), .val (.int sl), .val (.int l2), .val (.int v41), .val (.int v52), .val (.int v63), .val (.int x0), .val (.int x1), .val (.int x2), .val (.int v136), .val (.int v144), .val (.int v152), .val (.ref r_105), .val (.ref r_107), .val (.ref b109), .val (.int v196), .unset, .unset]) rfl k) ?_
          refine own_go (B := T110.setTop (mkF m 200 #[.val (.int p0), .val (.int p1), .val (.int p2), .val (.int v3), .val (.int sl), .val (.int l2), .val (.int v41), .val (.int v52), .val (.int v63), .val (.int x0), .val (.int x1), .val (.int x2), .val (.int v136), .val (.int v144), .val (.int v152), .val (.ref r_105), .val (.ref r_107), .val (.ref b109), .val (.int v196), .unset, .unset] [(.int v196)])) (fun _ k => XS.iload X110.here hx rfl (hb hby at_198) rfl k) ?_
          refine own_go (B := T110.setTop (mkF m 201 #[.val (.int p0), .val (.int p1), .val (.int p2), .val (.int v3), .val (.int sl), .val (.int l2), .val (.int v41), .val (.int v52), .val (.int v63), .val (.int x0), .val (.int x1), .val (.int x2), .val (.int v136), .val (.int v144), .val (.int v152), .val (.ref r_105), .val (.ref r_107), .val (.ref b109), .val (.int v196), .unset, .unset] [(.int (1 : Int32)), (.int v196)])) (fun _ k => XS.iconst X110.here hx rfl (hb hby at_200) k) ?_
          by_cases hc201 : v196 = (1 : Int32)
          · refine own_go (B := T110.setTop (mkF m 204 #[.val (.int p0), .val (.int p1), .val (.int p2), .val (.int v3), .val (.int sl), .val (.int l2), .val (.int v41), .val (.int v52), .val (.int v63), .val (.int x0), .val (.int x1), .val (.int x2), .val (.int v136), .val (.int v144), .val (.int v152), .val (.ref r_105), .val (.ref r_107), .val (.ref b109), .val (.int v196), .unset, .unset] [])) (fun _ k => XS.icmpNo X110.here hx rfl (hb hby at_201) rfl (teq hc201).2 k) ?_
            refine own_go (B := T110.setTop (mkF m 206 #[.val (.int p0), .val (.int p1), .val (.int p2), .val (.int v3), .val (.int sl), .val (.int l2), .val (.int v41), .val (.int v52), .val (.int v63), .val (.int x0), .val (.int x1), .val (.int x2), .val (.int v136), .val (.int v144), .val (.int v152), .val (.ref r_105), .val (.ref r_107), .val (.ref b109), .val (.int v196), .unset, .unset] [(.ref b109)])) (fun _ k => XS.aload X110.here hx rfl (hb hby at_204) rfl rfl k) ?_
            refine own_go (B := T110.setTop (mkF m 208 #[.val (.int p0), .val (.int p1), .val (.int p2), .val (.int v3), .val (.int sl), .val (.int l2), .val (.int v41), .val (.int v52), .val (.int v63), .val (.int x0), .val (.int x1), .val (.int x2), .val (.int v136), .val (.int v144), .val (.int v152), .val (.ref r_105), .val (.ref r_107), .val (.ref b109), .val (.int v196), .unset, .unset] [(.ref b109), (.ref b109)])) (fun _ k => XS.aload X110.here hx rfl (hb hby at_206) rfl rfl k) ?_
            obtain ⟨cq111, kq111, q111a, q111b, q111c⟩ := isOf hZ rfl (A109.keep K110)
            obtain ⟨_, _, ⟨T111, L111, k111, n111⟩, -, X111, ⟨Lc111, hQ111, l111, y111, z111⟩, st111⟩ := X110.virtualBack hx (y := (⟨"com/example/facts_from_rules/factsfromrules/Variable", "equals", "(Ljava/lang/Object;)Z"⟩ : MethodName)) (z := (⟨"com/example/facts_from_rules/factsfromrules/Variable", "equals", "(Ljava/lang/Object;)Z"⟩ : MethodName)) hown (mvT hZ (hw _ (List.mem_of_getElem? (i := 46) rfl))) (mvT hZ (hw _ (List.mem_of_getElem? (i := 47) rfl))) (notFace_of_selects (args := #[]) (mvT hZ (hw _ (List.mem_of_getElem? (i := 49) rfl)))) (mvT hZ (hw _ (List.mem_of_getElem? (i := 49) rfl))) (mvT hZ (hw _ (List.mem_of_getElem? (i := 48) rfl))) (by decide) (backOf (W := 0) (rmEqA l Z a0 hw [] zC fm G b109 b109 r_105 r_105 (own_mk v3 v41 v52 v63) (own_mk v3 v41 v52 v63) T110.heap n0 (Nat.le_trans Z0 K110'.1) O110 (A109.keep K110) F_110 F_110 (⟨t106, kb106, Nb106, vs106, (((Es106.keep K107).ext E109).keep K110), (((Fv106.keep K107 nin0).ext E109).keep K110 (ninS ne109_1 nin0)), (((Fc106.keep K107 nin0).ext E109).keep K110 (ninS ne109_1 nin0)), (((Vb106.keep K107 nin0).ext E109).keep K110 (ninS ne109_2 nin0)), cd106, rg106, ln106⟩ : own_Str Z T110.heap r_105 (own_mk v3 v41 v52 v63)) (⟨t106, kb106, Nb106, vs106, (((Es106.keep K107).ext E109).keep K110), (((Fv106.keep K107 nin0).ext E109).keep K110 (ninS ne109_1 nin0)), (((Fc106.keep K107 nin0).ext E109).keep K110 (ninS ne109_1 nin0)), (((Vb106.keep K107 nin0).ext E109).keep K110 (ninS ne109_2 nin0)), cd106, rg106, ln106⟩ : own_Str Z T110.heap r_105 (own_mk v3 v41 v52 v63))) hZ (hw _ (List.mem_of_getElem? (i := 50) rfl)) (hw _ (List.mem_of_getElem? (i := 39) rfl)) (by decide) (by decide)) q111a q111c (g := (mkF m 208 #[.val (.int p0), .val (.int p1), .val (.int p2), .val (.int v3), .val (.int sl), .val (.int l2), .val (.int v41), .val (.int v52), .val (.int v63), .val (.int x0), .val (.int x1), .val (.int x2), .val (.int v136), .val (.int v144), .val (.int v152), .val (.ref r_105), .val (.ref r_107), .val (.ref b109), .val (.int v196), .unset, .unset] [(.ref b109), (.ref b109)])) rfl (by rw [hml]; rfl) (Steps.refl _) (argsL := [(.ref b109)]) (rest := []) (lenOf pd_2 rfl) rfl (by show 2 * 0 + _ ≤ _; exact Nat.le_of_eq rfl) (hb hby at_208) (fun _ _ => ⟨rfl, rfl, (by decide : 13 + 0 ≤ 32), (by decide : 25 + 0 ≤ 1152)⟩)
            dsimp only [Pt.U, Pt.locs, Pt.cells, Pt.slots] at X111 l111 y111 z111 st111 hQ111
            subst l111 y111 z111
            obtain ⟨rfl, N111q, K111⟩ := hQ111
            have N111 := Fr.app N110 N111q
            have e111 : T111.heap = T110.heap := K111
            refine own_go (B := T111.setTop (mkF m 211 #[.val (.int p0), .val (.int p1), .val (.int p2), .val (.int v3), .val (.int sl), .val (.int l2), .val (.int v41), .val (.int v52), .val (.int v63), .val (.int x0), .val (.int x1), .val (.int x2), .val (.int v136), .val (.int v144), .val (.int v152), .val (.ref r_105), .val (.ref r_107), .val (.ref b109), .val (.int v196), .unset, .unset] [(.int (own_eqs (own_mk v3 v41 v52 v63) (own_mk v3 v41 v52 v63)))])) (fun _ k => st111.trans k) ?_
            obtain ⟨fs, hr, hrun, hended, hW, hsame⟩ := X111.leave (v := some (.int (nar .boolean (own_eqs (own_mk v3 v41 v52 v63) (own_mk v3 v41 v52 v63))))) (fun h => by rw [Bd.returns] at h; cases h)
            obtain ⟨en1, en2, en3⟩ := State.Since.ended (s := s) (vm₁ := T107.vm) SN107 hW (by show _ ≤ T111.heap.size; rw [e111]; exact (Nat.le_trans (Nat.le_trans (Nat.le_refl _) E109.1) K110.1)) hsame
            have CRe := CR110.trans (CHv.at (s := s) (vm0 := T107.vm) X111 hZ hEL CH110)
            have CRf : CHr Z own_EL s.vm s.heap T111.vm T111.heap := by rw [hh, e111]; exact CRe
            refine ⟨_, _, retN X111 hx (t := .boolean) Bd.returns (by simp) (hb hby at_211) hr, hrun, hended, _, _, rfl, ?_, CRf, ⟨_, rfl⟩, en1, en2, en3.mono (by decide) (by decide)⟩
            show Q_rm0 Z zC fm p0 p1 p2 h0 n0 _ T111.heap _
            rw [e111]
            exact ⟨(by rw [own_nb]; simp [own_eqs]), N111⟩
          · refine own_go (B := T110.setTop (mkF m 212 #[.val (.int p0), .val (.int p1), .val (.int p2), .val (.int v3), .val (.int sl), .val (.int l2), .val (.int v41), .val (.int v52), .val (.int v63), .val (.int x0), .val (.int x1), .val (.int x2), .val (.int v136), .val (.int v144), .val (.int v152), .val (.ref r_105), .val (.ref r_107), .val (.ref b109), .val (.int v196), .unset, .unset] [])) (fun _ k => XS.icmpYes X110.here hx rfl (pc0 := 201) (pc' := 212) rfl (hb hby at_201) rfl (feq hc201).2 (by decide) (by decide) k) ?_
            refine own_go (B := T110.setTop (mkF m 214 #[.val (.int p0), .val (.int p1), .val (.int p2), .val (.int v3), .val (.int sl), .val (.int l2), .val (.int v41), .val (.int v52), .val (.int v63), .val (.int x0), .val (.int x1), .val (.int x2), .val (.int v136), .val (.int v144), .val (.int v152), .val (.ref r_105), .val (.ref r_107), .val (.ref b109), .val (.int v196), .unset, .unset] [(.int v196)])) (fun _ k => XS.iload X110.here hx rfl (hb hby at_212) rfl k) ?_
            refine own_go (B := T110.setTop (mkF m 215 #[.val (.int p0), .val (.int p1), .val (.int p2), .val (.int v3), .val (.int sl), .val (.int l2), .val (.int v41), .val (.int v52), .val (.int v63), .val (.int x0), .val (.int x1), .val (.int x2), .val (.int v136), .val (.int v144), .val (.int v152), .val (.ref r_105), .val (.ref r_107), .val (.ref b109), .val (.int v196), .unset, .unset] [(.int (2 : Int32)), (.int v196)])) (fun _ k => XS.iconst X110.here hx rfl (hb hby at_214) k) ?_
            by_cases hc215 : v196 = (2 : Int32)
            · refine own_go (B := T110.setTop (mkF m 218 #[.val (.int p0), .val (.int p1), .val (.int p2), .val (.int v3), .val (.int sl), .val (.int l2), .val (.int v41), .val (.int v52), .val (.int v63), .val (.int x0), .val (.int x1), .val (.int x2), .val (.int v136), .val (.int v144), .val (.int v152), .val (.ref r_105), .val (.ref r_107), .val (.ref b109), .val (.int v196), .unset, .unset] [])) (fun _ k => XS.icmpNo X110.here hx rfl (hb hby at_215) rfl (teq hc215).2 k) ?_
              refine own_go (B := T110.setTop (mkF m 220 #[.val (.int p0), .val (.int p1), .val (.int p2), .val (.int v3), .val (.int sl), .val (.int l2), .val (.int v41), .val (.int v52), .val (.int v63), .val (.int x0), .val (.int x1), .val (.int x2), .val (.int v136), .val (.int v144), .val (.int v152), .val (.ref r_105), .val (.ref r_107), .val (.ref b109), .val (.int v196), .unset, .unset] [(.ref b109)])) (fun _ k => XS.aload X110.here hx rfl (hb hby at_218) rfl rfl k) ?_
              refine own_go (B := T110.setTop (mkF m 221 #[.val (.int p0), .val (.int p1), .val (.int p2), .val (.int v3), .val (.int sl), .val (.int l2), .val (.int v41), .val (.int v52), .val (.int v63), .val (.int x0), .val (.int x1), .val (.int x2), .val (.int v136), .val (.int v144), .val (.int v152), .val (.ref r_105), .val (.ref r_107), .val (.ref b109), .val (.int v196), .unset, .unset] [.null, (.ref b109)])) (fun _ k => XS.aconstNull X110.here hx rfl (hb hby at_220) k) ?_
              obtain ⟨cq112, kq112, q112a, q112b, q112c⟩ := isOf hZ rfl (A109.keep K110)
              obtain ⟨_, _, ⟨T112, L112, k112, n112⟩, -, X112, ⟨Lc112, hQ112, l112, y112, z112⟩, st112⟩ := X110.virtualBack hx (y := (⟨"com/example/facts_from_rules/factsfromrules/Variable", "equals", "(Ljava/lang/Object;)Z"⟩ : MethodName)) (z := (⟨"com/example/facts_from_rules/factsfromrules/Variable", "equals", "(Ljava/lang/Object;)Z"⟩ : MethodName)) hown (mvT hZ (hw _ (List.mem_of_getElem? (i := 46) rfl))) (mvT hZ (hw _ (List.mem_of_getElem? (i := 47) rfl))) (notFace_of_selects (args := #[]) (mvT hZ (hw _ (List.mem_of_getElem? (i := 49) rfl)))) (mvT hZ (hw _ (List.mem_of_getElem? (i := 49) rfl))) (mvT hZ (hw _ (List.mem_of_getElem? (i := 48) rfl))) (by decide) (backOf (W := 0) (rmEqN l Z a0 hw [] zC fm G b109 T110.heap n0 (Nat.le_trans Z0 K110'.1) O110 ) hZ (hw _ (List.mem_of_getElem? (i := 50) rfl)) (hw _ (List.mem_of_getElem? (i := 39) rfl)) (by decide) (by decide)) q112a q112c (g := (mkF m 221 #[.val (.int p0), .val (.int p1), .val (.int p2), .val (.int v3), .val (.int sl), .val (.int l2), .val (.int v41), .val (.int v52), .val (.int v63), .val (.int x0), .val (.int x1), .val (.int x2), .val (.int v136), .val (.int v144), .val (.int v152), .val (.ref r_105), .val (.ref r_107), .val (.ref b109), .val (.int v196), .unset, .unset] [.null, (.ref b109)])) rfl (by rw [hml]; rfl) (Steps.refl _) (argsL := [.null]) (rest := []) (lenOf pd_2 rfl) rfl (by show 2 * 0 + _ ≤ _; exact Nat.le_of_eq rfl) (hb hby at_221) (fun _ _ => ⟨rfl, rfl, (by decide : 13 + 0 ≤ 32), (by decide : 25 + 0 ≤ 1152)⟩)
              dsimp only [Pt.U, Pt.locs, Pt.cells, Pt.slots] at X112 l112 y112 z112 st112 hQ112
              subst l112 y112 z112
              obtain ⟨rfl, N112q, K112⟩ := hQ112
              have N112 := Fr.app N110 N112q
              have e112 : T112.heap = T110.heap := K112
              refine own_go (B := T112.setTop (mkF m 224 #[.val (.int p0), .val (.int p1), .val (.int p2), .val (.int v3), .val (.int sl), .val (.int l2), .val (.int v41), .val (.int v52), .val (.int v63), .val (.int x0), .val (.int x1), .val (.int x2), .val (.int v136), .val (.int v144), .val (.int v152), .val (.ref r_105), .val (.ref r_107), .val (.ref b109), .val (.int v196), .unset, .unset] [(.int (0 : Int32))])) (fun _ k => st112.trans k) ?_
              refine own_go (B := T112.setTop (mkF m 227 #[.val (.int p0), .val (.int p1), .val (.int p2), .val (.int v3), .val (.int sl), .val (.int l2), .val (.int v41), .val (.int v52), .val (.int v63), .val (.int x0), .val (.int x1), .val (.int x2), .val (.int v136), .val (.int v144), .val (.int v152), .val (.ref r_105), .val (.ref r_107), .val (.ref b109), .val (.int v196), .unset, .unset] [])) (fun _ k => XS.ifNo X112.here hx rfl (hb hby at_224) rfl ((if0 _ _).trans (teq (by decide : (0 : Int32) = (0 : Int32))).2) k) ?_
              refine own_go (B := T112.setTop (mkF m 228 #[.val (.int p0), .val (.int p1), .val (.int p2), .val (.int v3), .val (.int sl), .val (.int l2), .val (.int v41), .val (.int v52), .val (.int v63), .val (.int x0), .val (.int x1), .val (.int x2), .val (.int v136), .val (.int v144), .val (.int v152), .val (.ref r_105), .val (.ref r_107), .val (.ref b109), .val (.int v196), .unset, .unset] [(.int (1 : Int32))])) (fun _ k => XS.iconst X112.here hx rfl (hb hby at_227) k) ?_
              refine own_go (B := T112.setTop (mkF m 232 #[.val (.int p0), .val (.int p1), .val (.int p2), .val (.int v3), .val (.int sl), .val (.int l2), .val (.int v41), .val (.int v52), .val (.int v63), .val (.int x0), .val (.int x1), .val (.int x2), .val (.int v136), .val (.int v144), .val (.int v152), .val (.ref r_105), .val (.ref r_107), .val (.ref b109), .val (.int v196), .unset, .unset] [(.int (1 : Int32))])) (fun _ k => XS.goto X112.here hx rfl (pc0 := 228) (pc' := 232) rfl (hb hby at_228) (by decide) (by decide) k) ?_
              obtain ⟨fs, hr, hrun, hended, hW, hsame⟩ := X112.leave (v := some (.int (nar .boolean (1 : Int32)))) (fun h => by rw [Bd.returns] at h; cases h)
              obtain ⟨en1, en2, en3⟩ := State.Since.ended (s := s) (vm₁ := T107.vm) SN107 hW (by show _ ≤ T112.heap.size; rw [e112]; exact (Nat.le_trans (Nat.le_trans (Nat.le_refl _) E109.1) K110.1)) hsame
              have CRe := CR110.trans (CHv.at (s := s) (vm0 := T107.vm) X112 hZ hEL CH110)
              have CRf : CHr Z own_EL s.vm s.heap T112.vm T112.heap := by rw [hh, e112]; exact CRe
              refine ⟨_, _, retN X112 hx (t := .boolean) Bd.returns (by simp) (hb hby at_232) hr, hrun, hended, _, _, rfl, ?_, CRf, ⟨_, rfl⟩, en1, en2, en3.mono (by decide) (by decide)⟩
              show Q_rm0 Z zC fm p0 p1 p2 h0 n0 _ T112.heap _
              rw [e112]
              exact ⟨rfl, N112⟩
            · refine own_go (B := T110.setTop (mkF m 233 #[.val (.int p0), .val (.int p1), .val (.int p2), .val (.int v3), .val (.int sl), .val (.int l2), .val (.int v41), .val (.int v52), .val (.int v63), .val (.int x0), .val (.int x1), .val (.int x2), .val (.int v136), .val (.int v144), .val (.int v152), .val (.ref r_105), .val (.ref r_107), .val (.ref b109), .val (.int v196), .unset, .unset] [])) (fun _ k => XS.icmpYes X110.here hx rfl (pc0 := 215) (pc' := 233) rfl (hb hby at_215) rfl (feq hc215).2 (by decide) (by decide) k) ?_
              refine own_go (B := T110.setTop (mkF m 235 #[.val (.int p0), .val (.int p1), .val (.int p2), .val (.int v3), .val (.int sl), .val (.int l2), .val (.int v41), .val (.int v52), .val (.int v63), .val (.int x0), .val (.int x1), .val (.int x2), .val (.int v136), .val (.int v144), .val (.int v152), .val (.ref r_105), .val (.ref r_107), .val (.ref b109), .val (.int v196), .unset, .unset] [(.int v196)])) (fun _ k => XS.iload X110.here hx rfl (hb hby at_233) rfl k) ?_
              refine own_go (B := T110.setTop (mkF m 236 #[.val (.int p0), .val (.int p1), .val (.int p2), .val (.int v3), .val (.int sl), .val (.int l2), .val (.int v41), .val (.int v52), .val (.int v63), .val (.int x0), .val (.int x1), .val (.int x2), .val (.int v136), .val (.int v144), .val (.int v152), .val (.ref r_105), .val (.ref r_107), .val (.ref b109), .val (.int v196), .unset, .unset] [(.int (3 : Int32)), (.int v196)])) (fun _ k => XS.iconst X110.here hx rfl (hb hby at_235) k) ?_
              by_cases hc236 : v196 = (3 : Int32)
              · refine own_go (B := T110.setTop (mkF m 239 #[.val (.int p0), .val (.int p1), .val (.int p2), .val (.int v3), .val (.int sl), .val (.int l2), .val (.int v41), .val (.int v52), .val (.int v63), .val (.int x0), .val (.int x1), .val (.int x2), .val (.int v136), .val (.int v144), .val (.int v152), .val (.ref r_105), .val (.ref r_107), .val (.ref b109), .val (.int v196), .unset, .unset] [])) (fun _ k => XS.icmpNo X110.here hx rfl (hb hby at_236) rfl (teq hc236).2 k) ?_
                refine own_go (B := T110.setTop (mkF m 241 #[.val (.int p0), .val (.int p1), .val (.int p2), .val (.int v3), .val (.int sl), .val (.int l2), .val (.int v41), .val (.int v52), .val (.int v63), .val (.int x0), .val (.int x1), .val (.int x2), .val (.int v136), .val (.int v144), .val (.int v152), .val (.ref r_105), .val (.ref r_107), .val (.ref b109), .val (.int v196), .unset, .unset] [(.ref b109)])) (fun _ k => XS.aload X110.here hx rfl (hb hby at_239) rfl rfl k) ?_
                obtain ⟨T113, h113, X113, e113, E113, A113, D113, -, st113⟩ := newO X110 hx hZ hown (hw _ (List.mem_of_getElem? (i := 63) rfl)) (hw _ (List.mem_of_getElem? (i := 64) rfl)) (hw _ (List.mem_of_getElem? (i := 65) rfl)) rfl (g := (mkF m 241 #[.val (.int p0), .val (.int p1), .val (.int p2), .val (.int v3), .val (.int sl), .val (.int l2), .val (.int v41), .val (.int v52), .val (.int v63), .val (.int x0), .val (.int x1), .val (.int x2), .val (.int v136), .val (.int v144), .val (.int v152), .val (.ref r_105), .val (.ref r_107), .val (.ref b109), .val (.int v196), .unset, .unset] [(.ref b109)])) rfl (hb hby at_241) (by decide) (by decide)
                obtain ⟨b113, g113⟩ : ∃ z, z = T110.heap.size := ⟨_, rfl⟩
                rw [← g113] at A113 D113 st113
                have g_b113 : n0 ≤ b113 := Nat.le_trans (Nat.le_trans Z0 K110'.1) (Nat.le_of_eq g113.symm)
                have sz_b113 : h0.size ≤ b113 := Nat.le_trans K110'.1 (Nat.le_of_eq g113.symm)
                have ne113_1 : r_105 ≠ b113 := Nat.ne_of_lt (Nat.lt_of_lt_of_le (((Es106.keep K107).ext E109).keep K110).lt (Nat.le_of_eq g113.symm))
                have ne113_2 : t106 ≠ b113 := Nat.ne_of_lt (Nat.lt_of_lt_of_le (((Vb106.keep K107 nin0).ext E109).keep K110 (ninS ne109_2 nin0)).lt (Nat.le_of_eq g113.symm))
                have ne113_3 : r_107 ≠ b113 := Nat.ne_of_lt (Nat.lt_of_lt_of_le ((Es108.ext E109).keep K110).lt (Nat.le_of_eq g113.symm))
                have ne113_4 : t108 ≠ b113 := Nat.ne_of_lt (Nat.lt_of_lt_of_le ((Vb108.ext E109).keep K110 (ninS ne109_4 nin0)).lt (Nat.le_of_eq g113.symm))
                have ne113_5 : b109 ≠ b113 := Nat.ne_of_lt (Nat.lt_of_lt_of_le (A109.keep K110).lt (Nat.le_of_eq g113.symm))
                have CH113 := CHv.ext E113 CH110
                have CR113 := CR110.trans (CHr.ext E113 CH110)
                have Sf_b113 := Safe.ext E113 CH110 (Safe.new (Nat.le_of_eq g113.symm))
                have O113 := O110.ext E113
                have K113' : Keep h0 h113 ([] : List Addr) := K110'.ext E113
                have F_value_b113 : Fld Z h113 b113 "com/example/facts_from_rules/factsfromrules/Constant" "value" "Ljava/lang/Object;" .null := D113 (Or.inr (hw _ (List.mem_of_getElem? (i := 71) rfl))) (ty := (.object "java/lang/Object")) (by decide)
                refine own_go (B := T113.setTop (mkF m 244 #[.val (.int p0), .val (.int p1), .val (.int p2), .val (.int v3), .val (.int sl), .val (.int l2), .val (.int v41), .val (.int v52), .val (.int v63), .val (.int x0), .val (.int x1), .val (.int x2), .val (.int v136), .val (.int v144), .val (.int v152), .val (.ref r_105), .val (.ref r_107), .val (.ref b109), .val (.int v196), .unset, .unset] [(.ref b113), (.ref b109)])) (st113) ?_
                refine own_go (B := T113.setTop (mkF m 245 #[.val (.int p0), .val (.int p1), .val (.int p2), .val (.int v3), .val (.int sl), .val (.int l2), .val (.int v41), .val (.int v52), .val (.int v63), .val (.int x0), .val (.int x1), .val (.int x2), .val (.int v136), .val (.int v144), .val (.int v152), .val (.ref r_105), .val (.ref r_107), .val (.ref b109), .val (.int v196), .unset, .unset] [(.ref b113), (.ref b113), (.ref b109)])) (fun _ k => XS.dup X113.here hx rfl (hb hby at_244) rfl rfl k) ?_
                refine own_go (B := T113.setTop (mkF m 247 #[.val (.int p0), .val (.int p1), .val (.int p2), .val (.int v3), .val (.int sl), .val (.int l2), .val (.int v41), .val (.int v52), .val (.int v63), .val (.int x0), .val (.int x1), .val (.int x2), .val (.int v136), .val (.int v144), .val (.int v152), .val (.ref r_105), .val (.ref r_107), .val (.ref b109), .val (.int v196), .unset, .unset] [(.ref r_105), (.ref b113), (.ref b113), (.ref b109)])) (fun _ k => XS.aload X113.here hx rfl (hb hby at_245) rfl rfl k) ?_
                obtain ⟨_, _, ⟨T114, L114, k114, n114⟩, -, X114, ⟨Lc114, hQ114, l114, y114, z114⟩, st114⟩ := X113.specialBack hx (y := (⟨"com/example/facts_from_rules/factsfromrules/Constant", "<init>", "(Ljava/lang/Object;)V"⟩ : MethodName)) rfl hown (mvT hZ (hw _ (List.mem_of_getElem? (i := 66) rfl))) (mvT hZ (hw _ (List.mem_of_getElem? (i := 67) rfl))) (mvT hZ (hw _ (List.mem_of_getElem? (i := 68) rfl))) (by decide) (backOf (W := 2) (rm12 l Z a0 hw [] zC fm G b113 r_105 h113 n0 (Nat.le_trans Z0 K113'.1) O113 A113 F_value_b113 g_b113) hZ (hw _ (List.mem_of_getElem? (i := 68) rfl)) (hw _ (List.mem_of_getElem? (i := 65) rfl)) (by decide) (by decide)) (g := (mkF m 247 #[.val (.int p0), .val (.int p1), .val (.int p2), .val (.int v3), .val (.int sl), .val (.int l2), .val (.int v41), .val (.int v52), .val (.int v63), .val (.int x0), .val (.int x1), .val (.int x2), .val (.int v136), .val (.int v144), .val (.int v152), .val (.ref r_105), .val (.ref r_107), .val (.ref b109), .val (.int v196), .unset, .unset] [(.ref r_105), (.ref b113), (.ref b113), (.ref b109)])) rfl (by rw [hml]; rfl) (Steps.refl _) (a := b113) (argsL := [(.ref r_105)]) (rest := [(.ref b113), (.ref b109)]) (lenOf pd_5 rfl) rfl (by show 2 * 0 + _ ≤ _; exact Nat.le_of_eq rfl) (hb hby at_247) (fun _ _ => ⟨rfl, e113, (by decide : 14 + 0 ≤ 32), (by decide : 26 + 0 ≤ 1152)⟩)
                dsimp only [Pt.U, Pt.locs, Pt.cells, Pt.slots] at X114 l114 y114 z114 st114 hQ114
                subst l114 y114 z114
                obtain ⟨rfl, N114q, K114⟩ := hQ114
                have N114 := Fr.app N110 N114q
                have CH114 := CHv.keep K114 (sfS Sf_b113 sf0) CH113
                have CR114 := CR113.trans (CHr.keep K114 (sfS Sf_b113 sf0) CH113)
                have O114 := O113.keep K114 (allS g_b113 all0)
                have K114' : Keep h0 T114.heap ([] : List Addr) := K113'.trans K114 (allS (Or.inr sz_b113) all0)
                refine own_go (B := T114.setTop (mkF m 250 #[.val (.int p0), .val (.int p1), .val (.int p2), .val (.int v3), .val (.int sl), .val (.int l2), .val (.int v41), .val (.int v52), .val (.int v63), .val (.int x0), .val (.int x1), .val (.int x2), .val (.int v136), .val (.int v144), .val (.int v152), .val (.ref r_105), .val (.ref r_107), .val (.ref b109), .val (.int v196), .unset, .unset] [(.ref b113), (.ref b109)])) (fun _ k => st114.trans k) ?_
                obtain ⟨cq115, kq115, q115a, q115b, q115c⟩ := isOf hZ rfl (((A109.keep K110).ext E113).keep K114)
                obtain ⟨_, _, ⟨T115, L115, k115, n115⟩, -, X115, ⟨Lc115, hQ115, l115, y115, z115⟩, st115⟩ := X114.virtualBack hx (y := (⟨"com/example/facts_from_rules/factsfromrules/Variable", "equals", "(Ljava/lang/Object;)Z"⟩ : MethodName)) (z := (⟨"com/example/facts_from_rules/factsfromrules/Variable", "equals", "(Ljava/lang/Object;)Z"⟩ : MethodName)) hown (mvT hZ (hw _ (List.mem_of_getElem? (i := 46) rfl))) (mvT hZ (hw _ (List.mem_of_getElem? (i := 47) rfl))) (notFace_of_selects (args := #[]) (mvT hZ (hw _ (List.mem_of_getElem? (i := 49) rfl)))) (mvT hZ (hw _ (List.mem_of_getElem? (i := 49) rfl))) (mvT hZ (hw _ (List.mem_of_getElem? (i := 48) rfl))) (by decide) (backOf (W := 0) (rmEqC l Z a0 hw [] zC fm G b109 b113 T114.heap n0 (Nat.le_trans Z0 K114'.1) O114 (A113.keep K114)) hZ (hw _ (List.mem_of_getElem? (i := 50) rfl)) (hw _ (List.mem_of_getElem? (i := 39) rfl)) (by decide) (by decide)) q115a q115c (g := (mkF m 250 #[.val (.int p0), .val (.int p1), .val (.int p2), .val (.int v3), .val (.int sl), .val (.int l2), .val (.int v41), .val (.int v52), .val (.int v63), .val (.int x0), .val (.int x1), .val (.int x2), .val (.int v136), .val (.int v144), .val (.int v152), .val (.ref r_105), .val (.ref r_107), .val (.ref b109), .val (.int v196), .unset, .unset] [(.ref b113), (.ref b109)])) rfl (by rw [hml]; rfl) (Steps.refl _) (argsL := [(.ref b113)]) (rest := []) (lenOf pd_2 rfl) rfl (by show 2 * 0 + _ ≤ _; exact Nat.le_of_eq rfl) (hb hby at_250) (fun _ _ => ⟨rfl, rfl, (by decide : 14 + 0 ≤ 32), (by decide : 26 + 0 ≤ 1152)⟩)
                dsimp only [Pt.U, Pt.locs, Pt.cells, Pt.slots] at X115 l115 y115 z115 st115 hQ115
                subst l115 y115 z115
                obtain ⟨rfl, N115q, K115⟩ := hQ115
                have N115 := Fr.app N114 N115q
                have e115 : T115.heap = T114.heap := K115
                refine own_go (B := T115.setTop (mkF m 253 #[.val (.int p0), .val (.int p1), .val (.int p2), .val (.int v3), .val (.int sl), .val (.int l2), .val (.int v41), .val (.int v52), .val (.int v63), .val (.int x0), .val (.int x1), .val (.int x2), .val (.int v136), .val (.int v144), .val (.int v152), .val (.ref r_105), .val (.ref r_107), .val (.ref b109), .val (.int v196), .unset, .unset] [(.int (0 : Int32))])) (fun _ k => st115.trans k) ?_
                refine own_go (B := T115.setTop (mkF m 256 #[.val (.int p0), .val (.int p1), .val (.int p2), .val (.int v3), .val (.int sl), .val (.int l2), .val (.int v41), .val (.int v52), .val (.int v63), .val (.int x0), .val (.int x1), .val (.int x2), .val (.int v136), .val (.int v144), .val (.int v152), .val (.ref r_105), .val (.ref r_107), .val (.ref b109), .val (.int v196), .unset, .unset] [])) (fun _ k => XS.ifNo X115.here hx rfl (hb hby at_253) rfl ((if0 _ _).trans (teq (by decide : (0 : Int32) = (0 : Int32))).2) k) ?_
                refine own_go (B := T115.setTop (mkF m 257 #[.val (.int p0), .val (.int p1), .val (.int p2), .val (.int v3), .val (.int sl), .val (.int l2), .val (.int v41), .val (.int v52), .val (.int v63), .val (.int x0), .val (.int x1), .val (.int x2), .val (.int v136), .val (.int v144), .val (.int v152), .val (.ref r_105), .val (.ref r_107), .val (.ref b109), .val (.int v196), .unset, .unset] [(.int (1 : Int32))])) (fun _ k => XS.iconst X115.here hx rfl (hb hby at_256) k) ?_
                refine own_go (B := T115.setTop (mkF m 261 #[.val (.int p0), .val (.int p1), .val (.int p2), .val (.int v3), .val (.int sl), .val (.int l2), .val (.int v41), .val (.int v52), .val (.int v63), .val (.int x0), .val (.int x1), .val (.int x2), .val (.int v136), .val (.int v144), .val (.int v152), .val (.ref r_105), .val (.ref r_107), .val (.ref b109), .val (.int v196), .unset, .unset] [(.int (1 : Int32))])) (fun _ k => XS.goto X115.here hx rfl (pc0 := 257) (pc' := 261) rfl (hb hby at_257) (by decide) (by decide) k) ?_
                obtain ⟨fs, hr, hrun, hended, hW, hsame⟩ := X115.leave (v := some (.int (nar .boolean (1 : Int32)))) (fun h => by rw [Bd.returns] at h; cases h)
                obtain ⟨en1, en2, en3⟩ := State.Since.ended (s := s) (vm₁ := T107.vm) SN107 hW (by show _ ≤ T115.heap.size; rw [e115]; exact (Nat.le_trans (Nat.le_trans (Nat.le_trans (Nat.le_trans (Nat.le_refl _) E109.1) K110.1) E113.1) K114.1)) hsame
                have CRe := CR114.trans (CHv.at (s := s) (vm0 := T107.vm) X115 hZ hEL CH114)
                have CRf : CHr Z own_EL s.vm s.heap T115.vm T115.heap := by rw [hh, e115]; exact CRe
                refine ⟨_, _, retN X115 hx (t := .boolean) Bd.returns (by simp) (hb hby at_261) hr, hrun, hended, _, _, rfl, ?_, CRf, ⟨_, rfl⟩, en1, en2, en3.mono (by decide) (by decide)⟩
                show Q_rm0 Z zC fm p0 p1 p2 h0 n0 _ T115.heap _
                rw [e115]
                exact ⟨rfl, N115⟩
              · refine own_go (B := T110.setTop (mkF m 262 #[.val (.int p0), .val (.int p1), .val (.int p2), .val (.int v3), .val (.int sl), .val (.int l2), .val (.int v41), .val (.int v52), .val (.int v63), .val (.int x0), .val (.int x1), .val (.int x2), .val (.int v136), .val (.int v144), .val (.int v152), .val (.ref r_105), .val (.ref r_107), .val (.ref b109), .val (.int v196), .unset, .unset] [])) (fun _ k => XS.icmpYes X110.here hx rfl (pc0 := 236) (pc' := 262) rfl (hb hby at_236) rfl (feq hc236).2 (by decide) (by decide) k) ?_
                obtain ⟨T116, h116, X116, e116, E116, A116, D116, -, st116⟩ := newO X110 hx hZ hown (hw _ (List.mem_of_getElem? (i := 37) rfl)) (hw _ (List.mem_of_getElem? (i := 38) rfl)) (hw _ (List.mem_of_getElem? (i := 39) rfl)) rfl (g := (mkF m 262 #[.val (.int p0), .val (.int p1), .val (.int p2), .val (.int v3), .val (.int sl), .val (.int l2), .val (.int v41), .val (.int v52), .val (.int v63), .val (.int x0), .val (.int x1), .val (.int x2), .val (.int v136), .val (.int v144), .val (.int v152), .val (.ref r_105), .val (.ref r_107), .val (.ref b109), .val (.int v196), .unset, .unset] [])) rfl (hb hby at_262) (by decide) (by decide)
                obtain ⟨b116, g116⟩ : ∃ z, z = T110.heap.size := ⟨_, rfl⟩
                rw [← g116] at A116 D116 st116
                have g_b116 : n0 ≤ b116 := Nat.le_trans (Nat.le_trans Z0 K110'.1) (Nat.le_of_eq g116.symm)
                have sz_b116 : h0.size ≤ b116 := Nat.le_trans K110'.1 (Nat.le_of_eq g116.symm)
                have ne116_1 : r_105 ≠ b116 := Nat.ne_of_lt (Nat.lt_of_lt_of_le (((Es106.keep K107).ext E109).keep K110).lt (Nat.le_of_eq g116.symm))
                have ne116_2 : t106 ≠ b116 := Nat.ne_of_lt (Nat.lt_of_lt_of_le (((Vb106.keep K107 nin0).ext E109).keep K110 (ninS ne109_2 nin0)).lt (Nat.le_of_eq g116.symm))
                have ne116_3 : r_107 ≠ b116 := Nat.ne_of_lt (Nat.lt_of_lt_of_le ((Es108.ext E109).keep K110).lt (Nat.le_of_eq g116.symm))
                have ne116_4 : t108 ≠ b116 := Nat.ne_of_lt (Nat.lt_of_lt_of_le ((Vb108.ext E109).keep K110 (ninS ne109_4 nin0)).lt (Nat.le_of_eq g116.symm))
                have ne116_5 : b109 ≠ b116 := Nat.ne_of_lt (Nat.lt_of_lt_of_le (A109.keep K110).lt (Nat.le_of_eq g116.symm))
                have CH116 := CHv.ext E116 CH110
                have CR116 := CR110.trans (CHr.ext E116 CH110)
                have Sf_b116 := Safe.ext E116 CH110 (Safe.new (Nat.le_of_eq g116.symm))
                have O116 := O110.ext E116
                have K116' : Keep h0 h116 ([] : List Addr) := K110'.ext E116
                have F_name_b116 : Fld Z h116 b116 "com/example/facts_from_rules/factsfromrules/Variable" "name" "Ljava/lang/String;" .null := D116 (Or.inr (hw _ (List.mem_of_getElem? (i := 45) rfl))) (ty := (.object "java/lang/String")) (by decide)
                refine own_go (B := T116.setTop (mkF m 265 #[.val (.int p0), .val (.int p1), .val (.int p2), .val (.int v3), .val (.int sl), .val (.int l2), .val (.int v41), .val (.int v52), .val (.int v63), .val (.int x0), .val (.int x1), .val (.int x2), .val (.int v136), .val (.int v144), .val (.int v152), .val (.ref r_105), .val (.ref r_107), .val (.ref b109), .val (.int v196), .unset, .unset] [(.ref b116)])) (st116) ?_
                refine own_go (B := T116.setTop (mkF m 266 #[.val (.int p0), .val (.int p1), .val (.int p2), .val (.int v3), .val (.int sl), .val (.int l2), .val (.int v41), .val (.int v52), .val (.int v63), .val (.int x0), .val (.int x1), .val (.int x2), .val (.int v136), .val (.int v144), .val (.int v152), .val (.ref r_105), .val (.ref r_107), .val (.ref b109), .val (.int v196), .unset, .unset] [(.ref b116), (.ref b116)])) (fun _ k => XS.dup X116.here hx rfl (hb hby at_265) rfl rfl k) ?_
                refine own_go (B := T116.setTop (mkF m 268 #[.val (.int p0), .val (.int p1), .val (.int p2), .val (.int v3), .val (.int sl), .val (.int l2), .val (.int v41), .val (.int v52), .val (.int v63), .val (.int x0), .val (.int x1), .val (.int x2), .val (.int v136), .val (.int v144), .val (.int v152), .val (.ref r_105), .val (.ref r_107), .val (.ref b109), .val (.int v196), .unset, .unset] [(.ref r_107), (.ref b116), (.ref b116)])) (fun _ k => XS.aload X116.here hx rfl (hb hby at_266) rfl rfl k) ?_
                obtain ⟨_, _, ⟨T117, L117, k117, n117⟩, -, X117, ⟨Lc117, hQ117, l117, y117, z117⟩, st117⟩ := X116.specialBack hx (y := (⟨"com/example/facts_from_rules/factsfromrules/Variable", "<init>", "(Ljava/lang/String;)V"⟩ : MethodName)) rfl hown (mvT hZ (hw _ (List.mem_of_getElem? (i := 40) rfl))) (mvT hZ (hw _ (List.mem_of_getElem? (i := 41) rfl))) (mvT hZ (hw _ (List.mem_of_getElem? (i := 42) rfl))) (by decide) (backOf (W := 1) (rm8 l Z a0 hw [] zC fm G b116 r_107 h116 n0 (Nat.le_trans Z0 K116'.1) O116 A116 F_name_b116 g_b116) hZ (hw _ (List.mem_of_getElem? (i := 42) rfl)) (hw _ (List.mem_of_getElem? (i := 39) rfl)) (by decide) (by decide)) (g := (mkF m 268 #[.val (.int p0), .val (.int p1), .val (.int p2), .val (.int v3), .val (.int sl), .val (.int l2), .val (.int v41), .val (.int v52), .val (.int v63), .val (.int x0), .val (.int x1), .val (.int x2), .val (.int v136), .val (.int v144), .val (.int v152), .val (.ref r_105), .val (.ref r_107), .val (.ref b109), .val (.int v196), .unset, .unset] [(.ref r_107), (.ref b116), (.ref b116)])) rfl (by rw [hml]; rfl) (Steps.refl _) (a := b116) (argsL := [(.ref r_107)]) (rest := [(.ref b116)]) (lenOf pd_4 rfl) rfl (by show 2 * 0 + _ ≤ _; exact Nat.le_of_eq rfl) (hb hby at_268) (fun _ _ => ⟨rfl, e116, (by decide : 14 + 0 ≤ 32), (by decide : 26 + 0 ≤ 1152)⟩)
                dsimp only [Pt.U, Pt.locs, Pt.cells, Pt.slots] at X117 l117 y117 z117 st117 hQ117
                subst l117 y117 z117
                obtain ⟨rfl, N117q, K117, F_117⟩ := hQ117
                have N117 := Fr.app N110 N117q
                have CH117 := CHv.keep K117 (sfS Sf_b116 sf0) CH116
                have CR117 := CR116.trans (CHr.keep K117 (sfS Sf_b116 sf0) CH116)
                have O117 := O116.keep K117 (allS g_b116 all0)
                have K117' : Keep h0 T117.heap ([] : List Addr) := K116'.trans K117 (allS (Or.inr sz_b116) all0)
                refine own_go (B := T117.setTop (mkF m 271 #[.val (.int p0), .val (.int p1), .val (.int p2), .val (.int v3), .val (.int sl), .val (.int l2), .val (.int v41), .val (.int v52), .val (.int v63), .val (.int x0), .val (.int x1), .val (.int x2), .val (.int v136), .val (.int v144), .val (.int v152), .val (.ref r_105), .val (.ref r_107), .val (.ref b109), .val (.int v196), .unset, .unset] [(.ref b116)])) (fun _ k => st117.trans k) ?_
                refine own_go (B := T117.setTop (mkF m 273 #[.val (.int p0), .val (.int p1), .val (.int p2), .val (.int v3), .val (.int sl), .val (.int l2), .val (.int v41), .val (.int v52), .val (.int v63), .val (.int x0), .val (.int x1), .val (.int x2), .val (.int v136), .val (.int v144), .val (.int v152), .val (.ref r_105), .val (.ref r_107), .val (.ref b109), .val (.int v196), .val (.ref b116), .unset] [])) (fun _ k => XS.astore X117.here hx rfl (hb hby at_271) rfl rfl (l' := #[.val (.int p0), .val (.int p1), .val (.int p2), .val (.int v3), .val (.int sl), .val (.int l2), .val (.int v41), .val (.int v52), .val (.int v63), .val (.int x0), .val (.int x1), .val (.int x2), .val (.int v136), .val (.int v144), .val (.int v152), .val (.ref r_105), .val (.ref r_107), .val (.ref b109), .val (.int v196), .val (.ref b116), .unset]) rfl k) ?_
                have jn322 : ∀ (Tj : State) (Lj322 : List Loc) (Xj : Stand p l e room_1 (s.setVm T107.vm) m #[(.int p0), (.int p1), (.int p2)] below meth c Tj Lj322 14 26) (Nj322 : Fr n0 Lj322) (ej : Tj.heap = T117.heap) (ex : Int32) (hex : ex = own_eqs (own_mk v3 v41 v52 v63) (own_mk l2 v136 v144 v152)), own_Go p e below (fun o U' => ∃ v L, o = .returned v ∧ Q_rm0 Z zC fm p0 p1 p2 h0 n0 v U'.heap L ∧ CHr Z own_EL s.vm s.heap U'.vm U'.heap ∧ ReturnedEndW s o U' L room_1.cells room_1.slots) (Tj.setTop (mkF m 322 #[.val (.int p0), .val (.int p1), .val (.int p2), .val (.int v3), .val (.int sl), .val (.int l2), .val (.int v41), .val (.int v52), .val (.int v63), .val (.int x0), .val (.int x1), .val (.int x2), .val (.int v136), .val (.int v144), .val (.int v152), .val (.ref r_105), .val (.ref r_107), .val (.ref b109), .val (.int v196), .val (.ref b116), .val (.int ex)] [])) := by
                  intro Tj Lj322 Xj Nj322 ej ex hex
                  refine own_go (B := Tj.setTop (mkF m 324 #[.val (.int p0), .val (.int p1), .val (.int p2), .val (.int v3), .val (.int sl), .val (.int l2), .val (.int v41), .val (.int v52), .val (.int v63), .val (.int x0), .val (.int x1), .val (.int x2), .val (.int v136), .val (.int v144), .val (.int v152), .val (.ref r_105), .val (.ref r_107), .val (.ref b109), .val (.int v196), .val (.ref b116), .val (.int ex)] [(.ref b109)])) (fun _ k => XS.aload Xj.here hx rfl (hb hby at_322) rfl rfl k) ?_
                  refine own_go (B := Tj.setTop (mkF m 326 #[.val (.int p0), .val (.int p1), .val (.int p2), .val (.int v3), .val (.int sl), .val (.int l2), .val (.int v41), .val (.int v52), .val (.int v63), .val (.int x0), .val (.int x1), .val (.int x2), .val (.int v136), .val (.int v144), .val (.int v152), .val (.ref r_105), .val (.ref r_107), .val (.ref b109), .val (.int v196), .val (.ref b116), .val (.int ex)] [(.ref b116), (.ref b109)])) (fun _ k => XS.aload Xj.here hx rfl (hb hby at_324) rfl rfl k) ?_
                  obtain ⟨cq119, kq119, q119a, q119b, q119c⟩ := isOf hZ ej (((A109.keep K110).ext E116).keep K117)
                  obtain ⟨_, _, ⟨T119, L119, k119, n119⟩, -, X119, ⟨Lc119, hQ119, l119, y119, z119⟩, st119⟩ := Xj.virtualBack hx (y := (⟨"com/example/facts_from_rules/factsfromrules/Variable", "equals", "(Ljava/lang/Object;)Z"⟩ : MethodName)) (z := (⟨"com/example/facts_from_rules/factsfromrules/Variable", "equals", "(Ljava/lang/Object;)Z"⟩ : MethodName)) hown (mvT hZ (hw _ (List.mem_of_getElem? (i := 46) rfl))) (mvT hZ (hw _ (List.mem_of_getElem? (i := 47) rfl))) (notFace_of_selects (args := #[]) (mvT hZ (hw _ (List.mem_of_getElem? (i := 49) rfl)))) (mvT hZ (hw _ (List.mem_of_getElem? (i := 49) rfl))) (mvT hZ (hw _ (List.mem_of_getElem? (i := 48) rfl))) (by decide) (backOf (W := 0) (rmEqA l Z a0 hw [] zC fm G b109 b116 r_105 r_107 (own_mk v3 v41 v52 v63) (own_mk l2 v136 v144 v152) T117.heap n0 (Nat.le_trans Z0 K117'.1) O117 (A116.keep K117) ((F_110.ext E116).keep K117 (ninS ne116_5 nin0)) F_117 (⟨t106, kb106, Nb106, vs106, (((((Es106.keep K107).ext E109).keep K110).ext E116).keep K117), (((((Fv106.keep K107 nin0).ext E109).keep K110 (ninS ne109_1 nin0)).ext E116).keep K117 (ninS ne116_1 nin0)), (((((Fc106.keep K107 nin0).ext E109).keep K110 (ninS ne109_1 nin0)).ext E116).keep K117 (ninS ne116_1 nin0)), (((((Vb106.keep K107 nin0).ext E109).keep K110 (ninS ne109_2 nin0)).ext E116).keep K117 (ninS ne116_2 nin0)), cd106, rg106, ln106⟩ : own_Str Z T117.heap r_105 (own_mk v3 v41 v52 v63)) (⟨t108, kb108, Nb108, vs108, ((((Es108.ext E109).keep K110).ext E116).keep K117), ((((Fv108.ext E109).keep K110 (ninS ne109_3 nin0)).ext E116).keep K117 (ninS ne116_3 nin0)), ((((Fc108.ext E109).keep K110 (ninS ne109_3 nin0)).ext E116).keep K117 (ninS ne116_3 nin0)), ((((Vb108.ext E109).keep K110 (ninS ne109_4 nin0)).ext E116).keep K117 (ninS ne116_4 nin0)), cd108, rg108, ln108⟩ : own_Str Z T117.heap r_107 (own_mk l2 v136 v144 v152))) hZ (hw _ (List.mem_of_getElem? (i := 50) rfl)) (hw _ (List.mem_of_getElem? (i := 39) rfl)) (by decide) (by decide)) q119a q119c (g := (mkF m 326 #[.val (.int p0), .val (.int p1), .val (.int p2), .val (.int v3), .val (.int sl), .val (.int l2), .val (.int v41), .val (.int v52), .val (.int v63), .val (.int x0), .val (.int x1), .val (.int x2), .val (.int v136), .val (.int v144), .val (.int v152), .val (.ref r_105), .val (.ref r_107), .val (.ref b109), .val (.int v196), .val (.ref b116), .val (.int ex)] [(.ref b116), (.ref b109)])) rfl (by rw [hml]; rfl) (Steps.refl _) (argsL := [(.ref b116)]) (rest := []) (lenOf pd_2 rfl) rfl (by show 2 * 0 + _ ≤ _; exact Nat.le_of_eq rfl) (hb hby at_326) (fun _ _ => ⟨rfl, ej, (by decide : 14 + 0 ≤ 32), (by decide : 26 + 0 ≤ 1152)⟩)
                  dsimp only [Pt.U, Pt.locs, Pt.cells, Pt.slots] at X119 l119 y119 z119 st119 hQ119
                  subst l119 y119 z119
                  obtain ⟨rfl, N119q, K119⟩ := hQ119
                  have N119 := Fr.app Nj322 N119q
                  have e119 : T119.heap = T117.heap := K119
                  refine own_go (B := T119.setTop (mkF m 329 #[.val (.int p0), .val (.int p1), .val (.int p2), .val (.int v3), .val (.int sl), .val (.int l2), .val (.int v41), .val (.int v52), .val (.int v63), .val (.int x0), .val (.int x1), .val (.int x2), .val (.int v136), .val (.int v144), .val (.int v152), .val (.ref r_105), .val (.ref r_107), .val (.ref b109), .val (.int v196), .val (.ref b116), .val (.int ex)] [(.int (own_eqs (own_mk l2 v136 v144 v152) (own_mk v3 v41 v52 v63)))])) (fun _ k => st119.trans k) ?_
                  refine own_go (B := T119.setTop (mkF m 331 #[.val (.int p0), .val (.int p1), .val (.int p2), .val (.int v3), .val (.int sl), .val (.int l2), .val (.int v41), .val (.int v52), .val (.int v63), .val (.int x0), .val (.int x1), .val (.int x2), .val (.int v136), .val (.int v144), .val (.int v152), .val (.ref r_105), .val (.ref r_107), .val (.ref b109), .val (.int v196), .val (.ref b116), .val (.int ex)] [(.int ex), (.int (own_eqs (own_mk l2 v136 v144 v152) (own_mk v3 v41 v52 v63)))])) (fun _ k => XS.iload X119.here hx rfl (hb hby at_329) rfl k) ?_
                  refine own_go (B := T119.setTop (mkF m 334 #[.val (.int p0), .val (.int p1), .val (.int p2), .val (.int v3), .val (.int sl), .val (.int l2), .val (.int v41), .val (.int v52), .val (.int v63), .val (.int x0), .val (.int x1), .val (.int x2), .val (.int v136), .val (.int v144), .val (.int v152), .val (.ref r_105), .val (.ref r_107), .val (.ref b109), .val (.int v196), .val (.ref b116), .val (.int ex)] [])) (fun _ k => XS.icmpNo X119.here hx rfl (hb hby at_331) rfl (teq ((own_eqs_comm _ _).trans hex.symm)).2 k) ?_
                  refine own_go (B := T119.setTop (mkF m 336 #[.val (.int p0), .val (.int p1), .val (.int p2), .val (.int v3), .val (.int sl), .val (.int l2), .val (.int v41), .val (.int v52), .val (.int v63), .val (.int x0), .val (.int x1), .val (.int x2), .val (.int v136), .val (.int v144), .val (.int v152), .val (.ref r_105), .val (.ref r_107), .val (.ref b109), .val (.int v196), .val (.ref b116), .val (.int ex)] [(.ref b116)])) (fun _ k => XS.aload X119.here hx rfl (hb hby at_334) rfl rfl k) ?_
                  refine own_go (B := T119.setTop (mkF m 338 #[.val (.int p0), .val (.int p1), .val (.int p2), .val (.int v3), .val (.int sl), .val (.int l2), .val (.int v41), .val (.int v52), .val (.int v63), .val (.int x0), .val (.int x1), .val (.int x2), .val (.int v136), .val (.int v144), .val (.int v152), .val (.ref r_105), .val (.ref r_107), .val (.ref b109), .val (.int v196), .val (.ref b116), .val (.int ex)] [(.ref b109), (.ref b116)])) (fun _ k => XS.aload X119.here hx rfl (hb hby at_336) rfl rfl k) ?_
                  obtain ⟨cq120, kq120, q120a, q120b, q120c⟩ := isOf hZ e119 (A116.keep K117)
                  obtain ⟨_, _, ⟨T120, L120, k120, n120⟩, -, X120, ⟨Lc120, hQ120, l120, y120, z120⟩, st120⟩ := X119.virtualBack hx (y := (⟨"com/example/facts_from_rules/factsfromrules/Variable", "equals", "(Ljava/lang/Object;)Z"⟩ : MethodName)) (z := (⟨"com/example/facts_from_rules/factsfromrules/Variable", "equals", "(Ljava/lang/Object;)Z"⟩ : MethodName)) hown (mvT hZ (hw _ (List.mem_of_getElem? (i := 46) rfl))) (mvT hZ (hw _ (List.mem_of_getElem? (i := 47) rfl))) (notFace_of_selects (args := #[]) (mvT hZ (hw _ (List.mem_of_getElem? (i := 49) rfl)))) (mvT hZ (hw _ (List.mem_of_getElem? (i := 49) rfl))) (mvT hZ (hw _ (List.mem_of_getElem? (i := 48) rfl))) (by decide) (backOf (W := 0) (rmEqA l Z a0 hw [] zC fm G b116 b109 r_107 r_105 (own_mk l2 v136 v144 v152) (own_mk v3 v41 v52 v63) T117.heap n0 (Nat.le_trans Z0 K117'.1) O117 (((A109.keep K110).ext E116).keep K117) F_117 ((F_110.ext E116).keep K117 (ninS ne116_5 nin0)) (⟨t108, kb108, Nb108, vs108, ((((Es108.ext E109).keep K110).ext E116).keep K117), ((((Fv108.ext E109).keep K110 (ninS ne109_3 nin0)).ext E116).keep K117 (ninS ne116_3 nin0)), ((((Fc108.ext E109).keep K110 (ninS ne109_3 nin0)).ext E116).keep K117 (ninS ne116_3 nin0)), ((((Vb108.ext E109).keep K110 (ninS ne109_4 nin0)).ext E116).keep K117 (ninS ne116_4 nin0)), cd108, rg108, ln108⟩ : own_Str Z T117.heap r_107 (own_mk l2 v136 v144 v152)) (⟨t106, kb106, Nb106, vs106, (((((Es106.keep K107).ext E109).keep K110).ext E116).keep K117), (((((Fv106.keep K107 nin0).ext E109).keep K110 (ninS ne109_1 nin0)).ext E116).keep K117 (ninS ne116_1 nin0)), (((((Fc106.keep K107 nin0).ext E109).keep K110 (ninS ne109_1 nin0)).ext E116).keep K117 (ninS ne116_1 nin0)), (((((Vb106.keep K107 nin0).ext E109).keep K110 (ninS ne109_2 nin0)).ext E116).keep K117 (ninS ne116_2 nin0)), cd106, rg106, ln106⟩ : own_Str Z T117.heap r_105 (own_mk v3 v41 v52 v63))) hZ (hw _ (List.mem_of_getElem? (i := 50) rfl)) (hw _ (List.mem_of_getElem? (i := 39) rfl)) (by decide) (by decide)) q120a q120c (g := (mkF m 338 #[.val (.int p0), .val (.int p1), .val (.int p2), .val (.int v3), .val (.int sl), .val (.int l2), .val (.int v41), .val (.int v52), .val (.int v63), .val (.int x0), .val (.int x1), .val (.int x2), .val (.int v136), .val (.int v144), .val (.int v152), .val (.ref r_105), .val (.ref r_107), .val (.ref b109), .val (.int v196), .val (.ref b116), .val (.int ex)] [(.ref b109), (.ref b116)])) rfl (by rw [hml]; rfl) (Steps.refl _) (argsL := [(.ref b109)]) (rest := []) (lenOf pd_2 rfl) rfl (by show 2 * 0 + _ ≤ _; exact Nat.le_of_eq rfl) (hb hby at_338) (fun _ _ => ⟨rfl, e119, (by decide : 14 + 0 ≤ 32), (by decide : 26 + 0 ≤ 1152)⟩)
                  dsimp only [Pt.U, Pt.locs, Pt.cells, Pt.slots] at X120 l120 y120 z120 st120 hQ120
                  subst l120 y120 z120
                  obtain ⟨rfl, N120q, K120⟩ := hQ120
                  have N120 := Fr.app N119 N120q
                  have e120 : T120.heap = T117.heap := K120
                  refine own_go (B := T120.setTop (mkF m 341 #[.val (.int p0), .val (.int p1), .val (.int p2), .val (.int v3), .val (.int sl), .val (.int l2), .val (.int v41), .val (.int v52), .val (.int v63), .val (.int x0), .val (.int x1), .val (.int x2), .val (.int v136), .val (.int v144), .val (.int v152), .val (.ref r_105), .val (.ref r_107), .val (.ref b109), .val (.int v196), .val (.ref b116), .val (.int ex)] [(.int (own_eqs (own_mk v3 v41 v52 v63) (own_mk l2 v136 v144 v152)))])) (fun _ k => st120.trans k) ?_
                  refine own_go (B := T120.setTop (mkF m 343 #[.val (.int p0), .val (.int p1), .val (.int p2), .val (.int v3), .val (.int sl), .val (.int l2), .val (.int v41), .val (.int v52), .val (.int v63), .val (.int x0), .val (.int x1), .val (.int x2), .val (.int v136), .val (.int v144), .val (.int v152), .val (.ref r_105), .val (.ref r_107), .val (.ref b109), .val (.int v196), .val (.ref b116), .val (.int ex)] [(.int ex), (.int (own_eqs (own_mk v3 v41 v52 v63) (own_mk l2 v136 v144 v152)))])) (fun _ k => XS.iload X120.here hx rfl (hb hby at_341) rfl k) ?_
                  refine own_go (B := T120.setTop (mkF m 346 #[.val (.int p0), .val (.int p1), .val (.int p2), .val (.int v3), .val (.int sl), .val (.int l2), .val (.int v41), .val (.int v52), .val (.int v63), .val (.int x0), .val (.int x1), .val (.int x2), .val (.int v136), .val (.int v144), .val (.int v152), .val (.ref r_105), .val (.ref r_107), .val (.ref b109), .val (.int v196), .val (.ref b116), .val (.int ex)] [])) (fun _ k => XS.icmpNo X120.here hx rfl (hb hby at_343) rfl (teq hex.symm).2 k) ?_
                  refine own_go (B := T120.setTop (mkF m 347 #[.val (.int p0), .val (.int p1), .val (.int p2), .val (.int v3), .val (.int sl), .val (.int l2), .val (.int v41), .val (.int v52), .val (.int v63), .val (.int x0), .val (.int x1), .val (.int x2), .val (.int v136), .val (.int v144), .val (.int v152), .val (.ref r_105), .val (.ref r_107), .val (.ref b109), .val (.int v196), .val (.ref b116), .val (.int ex)] [(.int (1 : Int32))])) (fun _ k => XS.iconst X120.here hx rfl (hb hby at_346) k) ?_
                  refine own_go (B := T120.setTop (mkF m 351 #[.val (.int p0), .val (.int p1), .val (.int p2), .val (.int v3), .val (.int sl), .val (.int l2), .val (.int v41), .val (.int v52), .val (.int v63), .val (.int x0), .val (.int x1), .val (.int x2), .val (.int v136), .val (.int v144), .val (.int v152), .val (.ref r_105), .val (.ref r_107), .val (.ref b109), .val (.int v196), .val (.ref b116), .val (.int ex)] [(.int (1 : Int32))])) (fun _ k => XS.goto X120.here hx rfl (pc0 := 347) (pc' := 351) rfl (hb hby at_347) (by decide) (by decide) k) ?_
                  obtain ⟨fs, hr, hrun, hended, hW, hsame⟩ := X120.leave (v := some (.int (nar .boolean (1 : Int32)))) (fun h => by rw [Bd.returns] at h; cases h)
                  obtain ⟨en1, en2, en3⟩ := State.Since.ended (s := s) (vm₁ := T107.vm) SN107 hW (by show _ ≤ T120.heap.size; rw [e120]; exact (Nat.le_trans (Nat.le_trans (Nat.le_trans (Nat.le_trans (Nat.le_refl _) E109.1) K110.1) E116.1) K117.1)) hsame
                  have CRe := CR117.trans (CHv.at (s := s) (vm0 := T107.vm) X120 hZ hEL CH117)
                  have CRf : CHr Z own_EL s.vm s.heap T120.vm T120.heap := by rw [hh, e120]; exact CRe
                  refine ⟨_, _, retN X120 hx (t := .boolean) Bd.returns (by simp) (hb hby at_351) hr, hrun, hended, _, _, rfl, ?_, CRf, ⟨_, rfl⟩, en1, en2, en3.mono (by decide) (by decide)⟩
                  show Q_rm0 Z zC fm p0 p1 p2 h0 n0 _ T120.heap _
                  rw [e120]
                  exact ⟨rfl, N120⟩
                refine own_go (B := T117.setTop (mkF m 274 #[.val (.int p0), .val (.int p1), .val (.int p2), .val (.int v3), .val (.int sl), .val (.int l2), .val (.int v41), .val (.int v52), .val (.int v63), .val (.int x0), .val (.int x1), .val (.int x2), .val (.int v136), .val (.int v144), .val (.int v152), .val (.ref r_105), .val (.ref r_107), .val (.ref b109), .val (.int v196), .val (.ref b116), .unset] [(.int v3)])) (fun _ k => XS.iloadN X117.here hx rfl (hb hby at_273) rfl k) ?_
                refine own_go (B := T117.setTop (mkF m 276 #[.val (.int p0), .val (.int p1), .val (.int p2), .val (.int v3), .val (.int sl), .val (.int l2), .val (.int v41), .val (.int v52), .val (.int v63), .val (.int x0), .val (.int x1), .val (.int x2), .val (.int v136), .val (.int v144), .val (.int v152), .val (.ref r_105), .val (.ref r_107), .val (.ref b109), .val (.int v196), .val (.ref b116), .unset] [(.int l2), (.int v3)])) (fun _ k => XS.iload X117.here hx rfl (hb hby at_274) rfl k) ?_
                by_cases hc276 : v3 = l2
                · refine own_go (B := T117.setTop (mkF m 279 #[.val (.int p0), .val (.int p1), .val (.int p2), .val (.int v3), .val (.int sl), .val (.int l2), .val (.int v41), .val (.int v52), .val (.int v63), .val (.int x0), .val (.int x1), .val (.int x2), .val (.int v136), .val (.int v144), .val (.int v152), .val (.ref r_105), .val (.ref r_107), .val (.ref b109), .val (.int v196), .val (.ref b116), .unset] [])) (fun _ k => XS.icmpNo X117.here hx rfl (hb hby at_276) rfl (teq hc276).2 k) ?_
                  refine own_go (B := T117.setTop (mkF m 280 #[.val (.int p0), .val (.int p1), .val (.int p2), .val (.int v3), .val (.int sl), .val (.int l2), .val (.int v41), .val (.int v52), .val (.int v63), .val (.int x0), .val (.int x1), .val (.int x2), .val (.int v136), .val (.int v144), .val (.int v152), .val (.ref r_105), .val (.ref r_107), .val (.ref b109), .val (.int v196), .val (.ref b116), .unset] [(.int v3)])) (fun _ k => XS.iloadN X117.here hx rfl (hb hby at_279) rfl k) ?_
                  refine own_go (B := T117.setTop (mkF m 281 #[.val (.int p0), .val (.int p1), .val (.int p2), .val (.int v3), .val (.int sl), .val (.int l2), .val (.int v41), .val (.int v52), .val (.int v63), .val (.int x0), .val (.int x1), .val (.int x2), .val (.int v136), .val (.int v144), .val (.int v152), .val (.ref r_105), .val (.ref r_107), .val (.ref b109), .val (.int v196), .val (.ref b116), .unset] [(.int (1 : Int32)), (.int v3)])) (fun _ k => XS.iconst X117.here hx rfl (hb hby at_280) k) ?_
                  by_cases hc281 : v3 < (1 : Int32)
                  · refine own_go (B := T117.setTop (mkF m 291 #[.val (.int p0), .val (.int p1), .val (.int p2), .val (.int v3), .val (.int sl), .val (.int l2), .val (.int v41), .val (.int v52), .val (.int v63), .val (.int x0), .val (.int x1), .val (.int x2), .val (.int v136), .val (.int v144), .val (.int v152), .val (.ref r_105), .val (.ref r_107), .val (.ref b109), .val (.int v196), .val (.ref b116), .unset] [])) (fun _ k => XS.icmpYes X117.here hx rfl (pc0 := 281) (pc' := 291) rfl (hb hby at_281) rfl (tlt hc281).1 (by decide) (by decide) k) ?_
                    refine own_go (B := T117.setTop (mkF m 292 #[.val (.int p0), .val (.int p1), .val (.int p2), .val (.int v3), .val (.int sl), .val (.int l2), .val (.int v41), .val (.int v52), .val (.int v63), .val (.int x0), .val (.int x1), .val (.int x2), .val (.int v136), .val (.int v144), .val (.int v152), .val (.ref r_105), .val (.ref r_107), .val (.ref b109), .val (.int v196), .val (.ref b116), .unset] [(.int v3)])) (fun _ k => XS.iloadN X117.here hx rfl (hb hby at_291) rfl k) ?_
                    refine own_go (B := T117.setTop (mkF m 293 #[.val (.int p0), .val (.int p1), .val (.int p2), .val (.int v3), .val (.int sl), .val (.int l2), .val (.int v41), .val (.int v52), .val (.int v63), .val (.int x0), .val (.int x1), .val (.int x2), .val (.int v136), .val (.int v144), .val (.int v152), .val (.ref r_105), .val (.ref r_107), .val (.ref b109), .val (.int v196), .val (.ref b116), .unset] [(.int (2 : Int32)), (.int v3)])) (fun _ k => XS.iconst X117.here hx rfl (hb hby at_292) k) ?_
                    by_cases hc293 : v3 < (2 : Int32)
                    · refine own_go (B := T117.setTop (mkF m 303 #[.val (.int p0), .val (.int p1), .val (.int p2), .val (.int v3), .val (.int sl), .val (.int l2), .val (.int v41), .val (.int v52), .val (.int v63), .val (.int x0), .val (.int x1), .val (.int x2), .val (.int v136), .val (.int v144), .val (.int v152), .val (.ref r_105), .val (.ref r_107), .val (.ref b109), .val (.int v196), .val (.ref b116), .unset] [])) (fun _ k => XS.icmpYes X117.here hx rfl (pc0 := 293) (pc' := 303) rfl (hb hby at_293) rfl (tlt hc293).1 (by decide) (by decide) k) ?_
                      refine own_go (B := T117.setTop (mkF m 304 #[.val (.int p0), .val (.int p1), .val (.int p2), .val (.int v3), .val (.int sl), .val (.int l2), .val (.int v41), .val (.int v52), .val (.int v63), .val (.int x0), .val (.int x1), .val (.int x2), .val (.int v136), .val (.int v144), .val (.int v152), .val (.ref r_105), .val (.ref r_107), .val (.ref b109), .val (.int v196), .val (.ref b116), .unset] [(.int v3)])) (fun _ k => XS.iloadN X117.here hx rfl (hb hby at_303) rfl k) ?_
                      refine own_go (B := T117.setTop (mkF m 305 #[.val (.int p0), .val (.int p1), .val (.int p2), .val (.int v3), .val (.int sl), .val (.int l2), .val (.int v41), .val (.int v52), .val (.int v63), .val (.int x0), .val (.int x1), .val (.int x2), .val (.int v136), .val (.int v144), .val (.int v152), .val (.ref r_105), .val (.ref r_107), .val (.ref b109), .val (.int v196), .val (.ref b116), .unset] [(.int (3 : Int32)), (.int v3)])) (fun _ k => XS.iconst X117.here hx rfl (hb hby at_304) k) ?_
                      by_cases hc305 : v3 < (3 : Int32)
                      · refine own_go (B := T117.setTop (mkF m 315 #[.val (.int p0), .val (.int p1), .val (.int p2), .val (.int v3), .val (.int sl), .val (.int l2), .val (.int v41), .val (.int v52), .val (.int v63), .val (.int x0), .val (.int x1), .val (.int x2), .val (.int v136), .val (.int v144), .val (.int v152), .val (.ref r_105), .val (.ref r_107), .val (.ref b109), .val (.int v196), .val (.ref b116), .unset] [])) (fun _ k => XS.icmpYes X117.here hx rfl (pc0 := 305) (pc' := 315) rfl (hb hby at_305) rfl (tlt hc305).1 (by decide) (by decide) k) ?_
                        refine own_go (B := T117.setTop (mkF m 316 #[.val (.int p0), .val (.int p1), .val (.int p2), .val (.int v3), .val (.int sl), .val (.int l2), .val (.int v41), .val (.int v52), .val (.int v63), .val (.int x0), .val (.int x1), .val (.int x2), .val (.int v136), .val (.int v144), .val (.int v152), .val (.ref r_105), .val (.ref r_107), .val (.ref b109), .val (.int v196), .val (.ref b116), .unset] [(.int (1 : Int32))])) (fun _ k => XS.iconst X117.here hx rfl (hb hby at_315) k) ?_
                        refine own_go (B := T117.setTop (mkF m 320 #[.val (.int p0), .val (.int p1), .val (.int p2), .val (.int v3), .val (.int sl), .val (.int l2), .val (.int v41), .val (.int v52), .val (.int v63), .val (.int x0), .val (.int x1), .val (.int x2), .val (.int v136), .val (.int v144), .val (.int v152), .val (.ref r_105), .val (.ref r_107), .val (.ref b109), .val (.int v196), .val (.ref b116), .unset] [(.int (1 : Int32))])) (fun _ k => XS.goto X117.here hx rfl (pc0 := 316) (pc' := 320) rfl (hb hby at_316) (by decide) (by decide) k) ?_
                        refine own_go (B := T117.setTop (mkF m 322 #[.val (.int p0), .val (.int p1), .val (.int p2), .val (.int v3), .val (.int sl), .val (.int l2), .val (.int v41), .val (.int v52), .val (.int v63), .val (.int x0), .val (.int x1), .val (.int x2), .val (.int v136), .val (.int v144), .val (.int v152), .val (.ref r_105), .val (.ref r_107), .val (.ref b109), .val (.int v196), .val (.ref b116), .val (.int (1 : Int32))] [])) (fun _ k => XS.istore X117.here hx rfl (hb hby at_320) rfl (l' := #[.val (.int p0), .val (.int p1), .val (.int p2), .val (.int v3), .val (.int sl), .val (.int l2), .val (.int v41), .val (.int v52), .val (.int v63), .val (.int x0), .val (.int x1), .val (.int x2), .val (.int v136), .val (.int v144), .val (.int v152), .val (.ref r_105), .val (.ref r_107), .val (.ref b109), .val (.int v196), .val (.ref b116), .val (.int (1 : Int32))]) rfl k) ?_
                        exact jn322 T117 _ X117 N117 rfl (1 : Int32) (by rw [own_exp (hv3 ▸ own_r4m p2) hl2]; simp [eq_true hc276, hc281, hc293, hc305])
                      · refine own_go (B := T117.setTop (mkF m 308 #[.val (.int p0), .val (.int p1), .val (.int p2), .val (.int v3), .val (.int sl), .val (.int l2), .val (.int v41), .val (.int v52), .val (.int v63), .val (.int x0), .val (.int x1), .val (.int x2), .val (.int v136), .val (.int v144), .val (.int v152), .val (.ref r_105), .val (.ref r_107), .val (.ref b109), .val (.int v196), .val (.ref b116), .unset] [])) (fun _ k => XS.icmpNo X117.here hx rfl (hb hby at_305) rfl (flt hc305).1 k) ?_
                        refine own_go (B := T117.setTop (mkF m 310 #[.val (.int p0), .val (.int p1), .val (.int p2), .val (.int v3), .val (.int sl), .val (.int l2), .val (.int v41), .val (.int v52), .val (.int v63), .val (.int x0), .val (.int x1), .val (.int x2), .val (.int v136), .val (.int v144), .val (.int v152), .val (.ref r_105), .val (.ref r_107), .val (.ref b109), .val (.int v196), .val (.ref b116), .unset] [(.int v63)])) (fun _ k => XS.iload X117.here hx rfl (hb hby at_308) rfl k) ?_
                        refine own_go (B := T117.setTop (mkF m 312 #[.val (.int p0), .val (.int p1), .val (.int p2), .val (.int v3), .val (.int sl), .val (.int l2), .val (.int v41), .val (.int v52), .val (.int v63), .val (.int x0), .val (.int x1), .val (.int x2), .val (.int v136), .val (.int v144), .val (.int v152), .val (.ref r_105), .val (.ref r_107), .val (.ref b109), .val (.int v196), .val (.ref b116), .unset] [(.int v152), (.int v63)])) (fun _ k => XS.iload X117.here hx rfl (hb hby at_310) rfl k) ?_
                        by_cases hc312 : v63 = v152
                        · refine own_go (B := T117.setTop (mkF m 315 #[.val (.int p0), .val (.int p1), .val (.int p2), .val (.int v3), .val (.int sl), .val (.int l2), .val (.int v41), .val (.int v52), .val (.int v63), .val (.int x0), .val (.int x1), .val (.int x2), .val (.int v136), .val (.int v144), .val (.int v152), .val (.ref r_105), .val (.ref r_107), .val (.ref b109), .val (.int v196), .val (.ref b116), .unset] [])) (fun _ k => XS.icmpNo X117.here hx rfl (hb hby at_312) rfl (teq hc312).2 k) ?_
                          refine own_go (B := T117.setTop (mkF m 316 #[.val (.int p0), .val (.int p1), .val (.int p2), .val (.int v3), .val (.int sl), .val (.int l2), .val (.int v41), .val (.int v52), .val (.int v63), .val (.int x0), .val (.int x1), .val (.int x2), .val (.int v136), .val (.int v144), .val (.int v152), .val (.ref r_105), .val (.ref r_107), .val (.ref b109), .val (.int v196), .val (.ref b116), .unset] [(.int (1 : Int32))])) (fun _ k => XS.iconst X117.here hx rfl (hb hby at_315) k) ?_
                          refine own_go (B := T117.setTop (mkF m 320 #[.val (.int p0), .val (.int p1), .val (.int p2), .val (.int v3), .val (.int sl), .val (.int l2), .val (.int v41), .val (.int v52), .val (.int v63), .val (.int x0), .val (.int x1), .val (.int x2), .val (.int v136), .val (.int v144), .val (.int v152), .val (.ref r_105), .val (.ref r_107), .val (.ref b109), .val (.int v196), .val (.ref b116), .unset] [(.int (1 : Int32))])) (fun _ k => XS.goto X117.here hx rfl (pc0 := 316) (pc' := 320) rfl (hb hby at_316) (by decide) (by decide) k) ?_
                          refine own_go (B := T117.setTop (mkF m 322 #[.val (.int p0), .val (.int p1), .val (.int p2), .val (.int v3), .val (.int sl), .val (.int l2), .val (.int v41), .val (.int v52), .val (.int v63), .val (.int x0), .val (.int x1), .val (.int x2), .val (.int v136), .val (.int v144), .val (.int v152), .val (.ref r_105), .val (.ref r_107), .val (.ref b109), .val (.int v196), .val (.ref b116), .val (.int (1 : Int32))] [])) (fun _ k => XS.istore X117.here hx rfl (hb hby at_320) rfl (l' := #[.val (.int p0), .val (.int p1), .val (.int p2), .val (.int v3), .val (.int sl), .val (.int l2), .val (.int v41), .val (.int v52), .val (.int v63), .val (.int x0), .val (.int x1), .val (.int x2), .val (.int v136), .val (.int v144), .val (.int v152), .val (.ref r_105), .val (.ref r_107), .val (.ref b109), .val (.int v196), .val (.ref b116), .val (.int (1 : Int32))]) rfl k) ?_
                          exact jn322 T117 _ X117 N117 rfl (1 : Int32) (by rw [own_exp (hv3 ▸ own_r4m p2) hl2]; simp [eq_true hc276, hc281, hc293, hc305, hc312])
                        · refine own_go (B := T117.setTop (mkF m 319 #[.val (.int p0), .val (.int p1), .val (.int p2), .val (.int v3), .val (.int sl), .val (.int l2), .val (.int v41), .val (.int v52), .val (.int v63), .val (.int x0), .val (.int x1), .val (.int x2), .val (.int v136), .val (.int v144), .val (.int v152), .val (.ref r_105), .val (.ref r_107), .val (.ref b109), .val (.int v196), .val (.ref b116), .unset] [])) (fun _ k => XS.icmpYes X117.here hx rfl (pc0 := 312) (pc' := 319) rfl (hb hby at_312) rfl (feq hc312).2 (by decide) (by decide) k) ?_
                          refine own_go (B := T117.setTop (mkF m 320 #[.val (.int p0), .val (.int p1), .val (.int p2), .val (.int v3), .val (.int sl), .val (.int l2), .val (.int v41), .val (.int v52), .val (.int v63), .val (.int x0), .val (.int x1), .val (.int x2), .val (.int v136), .val (.int v144), .val (.int v152), .val (.ref r_105), .val (.ref r_107), .val (.ref b109), .val (.int v196), .val (.ref b116), .unset] [(.int (0 : Int32))])) (fun _ k => XS.iconst X117.here hx rfl (hb hby at_319) k) ?_
                          refine own_go (B := T117.setTop (mkF m 322 #[.val (.int p0), .val (.int p1), .val (.int p2), .val (.int v3), .val (.int sl), .val (.int l2), .val (.int v41), .val (.int v52), .val (.int v63), .val (.int x0), .val (.int x1), .val (.int x2), .val (.int v136), .val (.int v144), .val (.int v152), .val (.ref r_105), .val (.ref r_107), .val (.ref b109), .val (.int v196), .val (.ref b116), .val (.int (0 : Int32))] [])) (fun _ k => XS.istore X117.here hx rfl (hb hby at_320) rfl (l' := #[.val (.int p0), .val (.int p1), .val (.int p2), .val (.int v3), .val (.int sl), .val (.int l2), .val (.int v41), .val (.int v52), .val (.int v63), .val (.int x0), .val (.int x1), .val (.int x2), .val (.int v136), .val (.int v144), .val (.int v152), .val (.ref r_105), .val (.ref r_107), .val (.ref b109), .val (.int v196), .val (.ref b116), .val (.int (0 : Int32))]) rfl k) ?_
                          exact jn322 T117 _ X117 N117 rfl (0 : Int32) (by rw [own_exp (hv3 ▸ own_r4m p2) hl2]; simp [eq_true hc276, hc281, hc293, hc305, hc312])
                    · refine own_go (B := T117.setTop (mkF m 296 #[.val (.int p0), .val (.int p1), .val (.int p2), .val (.int v3), .val (.int sl), .val (.int l2), .val (.int v41), .val (.int v52), .val (.int v63), .val (.int x0), .val (.int x1), .val (.int x2), .val (.int v136), .val (.int v144), .val (.int v152), .val (.ref r_105), .val (.ref r_107), .val (.ref b109), .val (.int v196), .val (.ref b116), .unset] [])) (fun _ k => XS.icmpNo X117.here hx rfl (hb hby at_293) rfl (flt hc293).1 k) ?_
                      refine own_go (B := T117.setTop (mkF m 298 #[.val (.int p0), .val (.int p1), .val (.int p2), .val (.int v3), .val (.int sl), .val (.int l2), .val (.int v41), .val (.int v52), .val (.int v63), .val (.int x0), .val (.int x1), .val (.int x2), .val (.int v136), .val (.int v144), .val (.int v152), .val (.ref r_105), .val (.ref r_107), .val (.ref b109), .val (.int v196), .val (.ref b116), .unset] [(.int v52)])) (fun _ k => XS.iload X117.here hx rfl (hb hby at_296) rfl k) ?_
                      refine own_go (B := T117.setTop (mkF m 300 #[.val (.int p0), .val (.int p1), .val (.int p2), .val (.int v3), .val (.int sl), .val (.int l2), .val (.int v41), .val (.int v52), .val (.int v63), .val (.int x0), .val (.int x1), .val (.int x2), .val (.int v136), .val (.int v144), .val (.int v152), .val (.ref r_105), .val (.ref r_107), .val (.ref b109), .val (.int v196), .val (.ref b116), .unset] [(.int v144), (.int v52)])) (fun _ k => XS.iload X117.here hx rfl (hb hby at_298) rfl k) ?_
                      by_cases hc300 : v52 = v144
                      · refine own_go (B := T117.setTop (mkF m 303 #[.val (.int p0), .val (.int p1), .val (.int p2), .val (.int v3), .val (.int sl), .val (.int l2), .val (.int v41), .val (.int v52), .val (.int v63), .val (.int x0), .val (.int x1), .val (.int x2), .val (.int v136), .val (.int v144), .val (.int v152), .val (.ref r_105), .val (.ref r_107), .val (.ref b109), .val (.int v196), .val (.ref b116), .unset] [])) (fun _ k => XS.icmpNo X117.here hx rfl (hb hby at_300) rfl (teq hc300).2 k) ?_
                        refine own_go (B := T117.setTop (mkF m 304 #[.val (.int p0), .val (.int p1), .val (.int p2), .val (.int v3), .val (.int sl), .val (.int l2), .val (.int v41), .val (.int v52), .val (.int v63), .val (.int x0), .val (.int x1), .val (.int x2), .val (.int v136), .val (.int v144), .val (.int v152), .val (.ref r_105), .val (.ref r_107), .val (.ref b109), .val (.int v196), .val (.ref b116), .unset] [(.int v3)])) (fun _ k => XS.iloadN X117.here hx rfl (hb hby at_303) rfl k) ?_
                        refine own_go (B := T117.setTop (mkF m 305 #[.val (.int p0), .val (.int p1), .val (.int p2), .val (.int v3), .val (.int sl), .val (.int l2), .val (.int v41), .val (.int v52), .val (.int v63), .val (.int x0), .val (.int x1), .val (.int x2), .val (.int v136), .val (.int v144), .val (.int v152), .val (.ref r_105), .val (.ref r_107), .val (.ref b109), .val (.int v196), .val (.ref b116), .unset] [(.int (3 : Int32)), (.int v3)])) (fun _ k => XS.iconst X117.here hx rfl (hb hby at_304) k) ?_
                        by_cases hc305 : v3 < (3 : Int32)
                        · refine own_go (B := T117.setTop (mkF m 315 #[.val (.int p0), .val (.int p1), .val (.int p2), .val (.int v3), .val (.int sl), .val (.int l2), .val (.int v41), .val (.int v52), .val (.int v63), .val (.int x0), .val (.int x1), .val (.int x2), .val (.int v136), .val (.int v144), .val (.int v152), .val (.ref r_105), .val (.ref r_107), .val (.ref b109), .val (.int v196), .val (.ref b116), .unset] [])) (fun _ k => XS.icmpYes X117.here hx rfl (pc0 := 305) (pc' := 315) rfl (hb hby at_305) rfl (tlt hc305).1 (by decide) (by decide) k) ?_
                          refine own_go (B := T117.setTop (mkF m 316 #[.val (.int p0), .val (.int p1), .val (.int p2), .val (.int v3), .val (.int sl), .val (.int l2), .val (.int v41), .val (.int v52), .val (.int v63), .val (.int x0), .val (.int x1), .val (.int x2), .val (.int v136), .val (.int v144), .val (.int v152), .val (.ref r_105), .val (.ref r_107), .val (.ref b109), .val (.int v196), .val (.ref b116), .unset] [(.int (1 : Int32))])) (fun _ k => XS.iconst X117.here hx rfl (hb hby at_315) k) ?_
                          refine own_go (B := T117.setTop (mkF m 320 #[.val (.int p0), .val (.int p1), .val (.int p2), .val (.int v3), .val (.int sl), .val (.int l2), .val (.int v41), .val (.int v52), .val (.int v63), .val (.int x0), .val (.int x1), .val (.int x2), .val (.int v136), .val (.int v144), .val (.int v152), .val (.ref r_105), .val (.ref r_107), .val (.ref b109), .val (.int v196), .val (.ref b116), .unset] [(.int (1 : Int32))])) (fun _ k => XS.goto X117.here hx rfl (pc0 := 316) (pc' := 320) rfl (hb hby at_316) (by decide) (by decide) k) ?_
                          refine own_go (B := T117.setTop (mkF m 322 #[.val (.int p0), .val (.int p1), .val (.int p2), .val (.int v3), .val (.int sl), .val (.int l2), .val (.int v41), .val (.int v52), .val (.int v63), .val (.int x0), .val (.int x1), .val (.int x2), .val (.int v136), .val (.int v144), .val (.int v152), .val (.ref r_105), .val (.ref r_107), .val (.ref b109), .val (.int v196), .val (.ref b116), .val (.int (1 : Int32))] [])) (fun _ k => XS.istore X117.here hx rfl (hb hby at_320) rfl (l' := #[.val (.int p0), .val (.int p1), .val (.int p2), .val (.int v3), .val (.int sl), .val (.int l2), .val (.int v41), .val (.int v52), .val (.int v63), .val (.int x0), .val (.int x1), .val (.int x2), .val (.int v136), .val (.int v144), .val (.int v152), .val (.ref r_105), .val (.ref r_107), .val (.ref b109), .val (.int v196), .val (.ref b116), .val (.int (1 : Int32))]) rfl k) ?_
                          exact jn322 T117 _ X117 N117 rfl (1 : Int32) (by rw [own_exp (hv3 ▸ own_r4m p2) hl2]; simp [eq_true hc276, hc281, hc293, hc300, hc305])
                        · refine own_go (B := T117.setTop (mkF m 308 #[.val (.int p0), .val (.int p1), .val (.int p2), .val (.int v3), .val (.int sl), .val (.int l2), .val (.int v41), .val (.int v52), .val (.int v63), .val (.int x0), .val (.int x1), .val (.int x2), .val (.int v136), .val (.int v144), .val (.int v152), .val (.ref r_105), .val (.ref r_107), .val (.ref b109), .val (.int v196), .val (.ref b116), .unset] [])) (fun _ k => XS.icmpNo X117.here hx rfl (hb hby at_305) rfl (flt hc305).1 k) ?_
                          refine own_go (B := T117.setTop (mkF m 310 #[.val (.int p0), .val (.int p1), .val (.int p2), .val (.int v3), .val (.int sl), .val (.int l2), .val (.int v41), .val (.int v52), .val (.int v63), .val (.int x0), .val (.int x1), .val (.int x2), .val (.int v136), .val (.int v144), .val (.int v152), .val (.ref r_105), .val (.ref r_107), .val (.ref b109), .val (.int v196), .val (.ref b116), .unset] [(.int v63)])) (fun _ k => XS.iload X117.here hx rfl (hb hby at_308) rfl k) ?_
                          refine own_go (B := T117.setTop (mkF m 312 #[.val (.int p0), .val (.int p1), .val (.int p2), .val (.int v3), .val (.int sl), .val (.int l2), .val (.int v41), .val (.int v52), .val (.int v63), .val (.int x0), .val (.int x1), .val (.int x2), .val (.int v136), .val (.int v144), .val (.int v152), .val (.ref r_105), .val (.ref r_107), .val (.ref b109), .val (.int v196), .val (.ref b116), .unset] [(.int v152), (.int v63)])) (fun _ k => XS.iload X117.here hx rfl (hb hby at_310) rfl k) ?_
                          by_cases hc312 : v63 = v152
                          · refine own_go (B := T117.setTop (mkF m 315 #[.val (.int p0), .val (.int p1), .val (.int p2), .val (.int v3), .val (.int sl), .val (.int l2), .val (.int v41), .val (.int v52), .val (.int v63), .val (.int x0), .val (.int x1), .val (.int x2), .val (.int v136), .val (.int v144), .val (.int v152), .val (.ref r_105), .val (.ref r_107), .val (.ref b109), .val (.int v196), .val (.ref b116), .unset] [])) (fun _ k => XS.icmpNo X117.here hx rfl (hb hby at_312) rfl (teq hc312).2 k) ?_
                            refine own_go (B := T117.setTop (mkF m 316 #[.val (.int p0), .val (.int p1), .val (.int p2), .val (.int v3), .val (.int sl), .val (.int l2), .val (.int v41), .val (.int v52), .val (.int v63), .val (.int x0), .val (.int x1), .val (.int x2), .val (.int v136), .val (.int v144), .val (.int v152), .val (.ref r_105), .val (.ref r_107), .val (.ref b109), .val (.int v196), .val (.ref b116), .unset] [(.int (1 : Int32))])) (fun _ k => XS.iconst X117.here hx rfl (hb hby at_315) k) ?_
                            refine own_go (B := T117.setTop (mkF m 320 #[.val (.int p0), .val (.int p1), .val (.int p2), .val (.int v3), .val (.int sl), .val (.int l2), .val (.int v41), .val (.int v52), .val (.int v63), .val (.int x0), .val (.int x1), .val (.int x2), .val (.int v136), .val (.int v144), .val (.int v152), .val (.ref r_105), .val (.ref r_107), .val (.ref b109), .val (.int v196), .val (.ref b116), .unset] [(.int (1 : Int32))])) (fun _ k => XS.goto X117.here hx rfl (pc0 := 316) (pc' := 320) rfl (hb hby at_316) (by decide) (by decide) k) ?_
                            refine own_go (B := T117.setTop (mkF m 322 #[.val (.int p0), .val (.int p1), .val (.int p2), .val (.int v3), .val (.int sl), .val (.int l2), .val (.int v41), .val (.int v52), .val (.int v63), .val (.int x0), .val (.int x1), .val (.int x2), .val (.int v136), .val (.int v144), .val (.int v152), .val (.ref r_105), .val (.ref r_107), .val (.ref b109), .val (.int v196), .val (.ref b116), .val (.int (1 : Int32))] [])) (fun _ k => XS.istore X117.here hx rfl (hb hby at_320) rfl (l' := #[.val (.int p0), .val (.int p1), .val (.int p2), .val (.int v3), .val (.int sl), .val (.int l2), .val (.int v41), .val (.int v52), .val (.int v63), .val (.int x0), .val (.int x1), .val (.int x2), .val (.int v136), .val (.int v144), .val (.int v152), .val (.ref r_105), .val (.ref r_107), .val (.ref b109), .val (.int v196), .val (.ref b116), .val (.int (1 : Int32))]) rfl k) ?_
                            exact jn322 T117 _ X117 N117 rfl (1 : Int32) (by rw [own_exp (hv3 ▸ own_r4m p2) hl2]; simp [eq_true hc276, hc281, hc293, hc300, hc305, hc312])
                          · refine own_go (B := T117.setTop (mkF m 319 #[.val (.int p0), .val (.int p1), .val (.int p2), .val (.int v3), .val (.int sl), .val (.int l2), .val (.int v41), .val (.int v52), .val (.int v63), .val (.int x0), .val (.int x1), .val (.int x2), .val (.int v136), .val (.int v144), .val (.int v152), .val (.ref r_105), .val (.ref r_107), .val (.ref b109), .val (.int v196), .val (.ref b116), .unset] [])) (fun _ k => XS.icmpYes X117.here hx rfl (pc0 := 312) (pc' := 319) rfl (hb hby at_312) rfl (feq hc312).2 (by decide) (by decide) k) ?_
                            refine own_go (B := T117.setTop (mkF m 320 #[.val (.int p0), .val (.int p1), .val (.int p2), .val (.int v3), .val (.int sl), .val (.int l2), .val (.int v41), .val (.int v52), .val (.int v63), .val (.int x0), .val (.int x1), .val (.int x2), .val (.int v136), .val (.int v144), .val (.int v152), .val (.ref r_105), .val (.ref r_107), .val (.ref b109), .val (.int v196), .val (.ref b116), .unset] [(.int (0 : Int32))])) (fun _ k => XS.iconst X117.here hx rfl (hb hby at_319) k) ?_
                            refine own_go (B := T117.setTop (mkF m 322 #[.val (.int p0), .val (.int p1), .val (.int p2), .val (.int v3), .val (.int sl), .val (.int l2), .val (.int v41), .val (.int v52), .val (.int v63), .val (.int x0), .val (.int x1), .val (.int x2), .val (.int v136), .val (.int v144), .val (.int v152), .val (.ref r_105), .val (.ref r_107), .val (.ref b109), .val (.int v196), .val (.ref b116), .val (.int (0 : Int32))] [])) (fun _ k => XS.istore X117.here hx rfl (hb hby at_320) rfl (l' := #[.val (.int p0), .val (.int p1), .val (.int p2), .val (.int v3), .val (.int sl), .val (.int l2), .val (.int v41), .val (.int v52), .val (.int v63), .val (.int x0), .val (.int x1), .val (.int x2), .val (.int v136), .val (.int v144), .val (.int v152), .val (.ref r_105), .val (.ref r_107), .val (.ref b109), .val (.int v196), .val (.ref b116), .val (.int (0 : Int32))]) rfl k) ?_
                            exact jn322 T117 _ X117 N117 rfl (0 : Int32) (by rw [own_exp (hv3 ▸ own_r4m p2) hl2]; simp [eq_true hc276, hc281, hc293, hc300, hc305, hc312])
                      · refine own_go (B := T117.setTop (mkF m 319 #[.val (.int p0), .val (.int p1), .val (.int p2), .val (.int v3), .val (.int sl), .val (.int l2), .val (.int v41), .val (.int v52), .val (.int v63), .val (.int x0), .val (.int x1), .val (.int x2), .val (.int v136), .val (.int v144), .val (.int v152), .val (.ref r_105), .val (.ref r_107), .val (.ref b109), .val (.int v196), .val (.ref b116), .unset] [])) (fun _ k => XS.icmpYes X117.here hx rfl (pc0 := 300) (pc' := 319) rfl (hb hby at_300) rfl (feq hc300).2 (by decide) (by decide) k) ?_
                        refine own_go (B := T117.setTop (mkF m 320 #[.val (.int p0), .val (.int p1), .val (.int p2), .val (.int v3), .val (.int sl), .val (.int l2), .val (.int v41), .val (.int v52), .val (.int v63), .val (.int x0), .val (.int x1), .val (.int x2), .val (.int v136), .val (.int v144), .val (.int v152), .val (.ref r_105), .val (.ref r_107), .val (.ref b109), .val (.int v196), .val (.ref b116), .unset] [(.int (0 : Int32))])) (fun _ k => XS.iconst X117.here hx rfl (hb hby at_319) k) ?_
                        refine own_go (B := T117.setTop (mkF m 322 #[.val (.int p0), .val (.int p1), .val (.int p2), .val (.int v3), .val (.int sl), .val (.int l2), .val (.int v41), .val (.int v52), .val (.int v63), .val (.int x0), .val (.int x1), .val (.int x2), .val (.int v136), .val (.int v144), .val (.int v152), .val (.ref r_105), .val (.ref r_107), .val (.ref b109), .val (.int v196), .val (.ref b116), .val (.int (0 : Int32))] [])) (fun _ k => XS.istore X117.here hx rfl (hb hby at_320) rfl (l' := #[.val (.int p0), .val (.int p1), .val (.int p2), .val (.int v3), .val (.int sl), .val (.int l2), .val (.int v41), .val (.int v52), .val (.int v63), .val (.int x0), .val (.int x1), .val (.int x2), .val (.int v136), .val (.int v144), .val (.int v152), .val (.ref r_105), .val (.ref r_107), .val (.ref b109), .val (.int v196), .val (.ref b116), .val (.int (0 : Int32))]) rfl k) ?_
                        exact jn322 T117 _ X117 N117 rfl (0 : Int32) (by rw [own_exp (hv3 ▸ own_r4m p2) hl2]; simp [eq_true hc276, hc281, hc293, hc300])
                  · refine own_go (B := T117.setTop (mkF m 284 #[.val (.int p0), .val (.int p1), .val (.int p2), .val (.int v3), .val (.int sl), .val (.int l2), .val (.int v41), .val (.int v52), .val (.int v63), .val (.int x0), .val (.int x1), .val (.int x2), .val (.int v136), .val (.int v144), .val (.int v152), .val (.ref r_105), .val (.ref r_107), .val (.ref b109), .val (.int v196), .val (.ref b116), .unset] [])) (fun _ k => XS.icmpNo X117.here hx rfl (hb hby at_281) rfl (flt hc281).1 k) ?_
                    refine own_go (B := T117.setTop (mkF m 286 #[.val (.int p0), .val (.int p1), .val (.int p2), .val (.int v3), .val (.int sl), .val (.int l2), .val (.int v41), .val (.int v52), .val (.int v63), .val (.int x0), .val (.int x1), .val (.int x2), .val (.int v136), .val (.int v144), .val (.int v152), .val (.ref r_105), .val (.ref r_107), .val (.ref b109), .val (.int v196), .val (.ref b116), .unset] [(.int v41)])) (fun _ k => XS.iload X117.here hx rfl (hb hby at_284) rfl k) ?_
                    refine own_go (B := T117.setTop (mkF m 288 #[.val (.int p0), .val (.int p1), .val (.int p2), .val (.int v3), .val (.int sl), .val (.int l2), .val (.int v41), .val (.int v52), .val (.int v63), .val (.int x0), .val (.int x1), .val (.int x2), .val (.int v136), .val (.int v144), .val (.int v152), .val (.ref r_105), .val (.ref r_107), .val (.ref b109), .val (.int v196), .val (.ref b116), .unset] [(.int v136), (.int v41)])) (fun _ k => XS.iload X117.here hx rfl (hb hby at_286) rfl k) ?_
                    by_cases hc288 : v41 = v136
                    · refine own_go (B := T117.setTop (mkF m 291 #[.val (.int p0), .val (.int p1), .val (.int p2), .val (.int v3), .val (.int sl), .val (.int l2), .val (.int v41), .val (.int v52), .val (.int v63), .val (.int x0), .val (.int x1), .val (.int x2), .val (.int v136), .val (.int v144), .val (.int v152), .val (.ref r_105), .val (.ref r_107), .val (.ref b109), .val (.int v196), .val (.ref b116), .unset] [])) (fun _ k => XS.icmpNo X117.here hx rfl (hb hby at_288) rfl (teq hc288).2 k) ?_
                      refine own_go (B := T117.setTop (mkF m 292 #[.val (.int p0), .val (.int p1), .val (.int p2), .val (.int v3), .val (.int sl), .val (.int l2), .val (.int v41), .val (.int v52), .val (.int v63), .val (.int x0), .val (.int x1), .val (.int x2), .val (.int v136), .val (.int v144), .val (.int v152), .val (.ref r_105), .val (.ref r_107), .val (.ref b109), .val (.int v196), .val (.ref b116), .unset] [(.int v3)])) (fun _ k => XS.iloadN X117.here hx rfl (hb hby at_291) rfl k) ?_
                      refine own_go (B := T117.setTop (mkF m 293 #[.val (.int p0), .val (.int p1), .val (.int p2), .val (.int v3), .val (.int sl), .val (.int l2), .val (.int v41), .val (.int v52), .val (.int v63), .val (.int x0), .val (.int x1), .val (.int x2), .val (.int v136), .val (.int v144), .val (.int v152), .val (.ref r_105), .val (.ref r_107), .val (.ref b109), .val (.int v196), .val (.ref b116), .unset] [(.int (2 : Int32)), (.int v3)])) (fun _ k => XS.iconst X117.here hx rfl (hb hby at_292) k) ?_
                      by_cases hc293 : v3 < (2 : Int32)
                      · refine own_go (B := T117.setTop (mkF m 303 #[.val (.int p0), .val (.int p1), .val (.int p2), .val (.int v3), .val (.int sl), .val (.int l2), .val (.int v41), .val (.int v52), .val (.int v63), .val (.int x0), .val (.int x1), .val (.int x2), .val (.int v136), .val (.int v144), .val (.int v152), .val (.ref r_105), .val (.ref r_107), .val (.ref b109), .val (.int v196), .val (.ref b116), .unset] [])) (fun _ k => XS.icmpYes X117.here hx rfl (pc0 := 293) (pc' := 303) rfl (hb hby at_293) rfl (tlt hc293).1 (by decide) (by decide) k) ?_
                        refine own_go (B := T117.setTop (mkF m 304 #[.val (.int p0), .val (.int p1), .val (.int p2), .val (.int v3), .val (.int sl), .val (.int l2), .val (.int v41), .val (.int v52), .val (.int v63), .val (.int x0), .val (.int x1), .val (.int x2), .val (.int v136), .val (.int v144), .val (.int v152), .val (.ref r_105), .val (.ref r_107), .val (.ref b109), .val (.int v196), .val (.ref b116), .unset] [(.int v3)])) (fun _ k => XS.iloadN X117.here hx rfl (hb hby at_303) rfl k) ?_
                        refine own_go (B := T117.setTop (mkF m 305 #[.val (.int p0), .val (.int p1), .val (.int p2), .val (.int v3), .val (.int sl), .val (.int l2), .val (.int v41), .val (.int v52), .val (.int v63), .val (.int x0), .val (.int x1), .val (.int x2), .val (.int v136), .val (.int v144), .val (.int v152), .val (.ref r_105), .val (.ref r_107), .val (.ref b109), .val (.int v196), .val (.ref b116), .unset] [(.int (3 : Int32)), (.int v3)])) (fun _ k => XS.iconst X117.here hx rfl (hb hby at_304) k) ?_
                        by_cases hc305 : v3 < (3 : Int32)
                        · refine own_go (B := T117.setTop (mkF m 315 #[.val (.int p0), .val (.int p1), .val (.int p2), .val (.int v3), .val (.int sl), .val (.int l2), .val (.int v41), .val (.int v52), .val (.int v63), .val (.int x0), .val (.int x1), .val (.int x2), .val (.int v136), .val (.int v144), .val (.int v152), .val (.ref r_105), .val (.ref r_107), .val (.ref b109), .val (.int v196), .val (.ref b116), .unset] [])) (fun _ k => XS.icmpYes X117.here hx rfl (pc0 := 305) (pc' := 315) rfl (hb hby at_305) rfl (tlt hc305).1 (by decide) (by decide) k) ?_
                          refine own_go (B := T117.setTop (mkF m 316 #[.val (.int p0), .val (.int p1), .val (.int p2), .val (.int v3), .val (.int sl), .val (.int l2), .val (.int v41), .val (.int v52), .val (.int v63), .val (.int x0), .val (.int x1), .val (.int x2), .val (.int v136), .val (.int v144), .val (.int v152), .val (.ref r_105), .val (.ref r_107), .val (.ref b109), .val (.int v196), .val (.ref b116), .unset] [(.int (1 : Int32))])) (fun _ k => XS.iconst X117.here hx rfl (hb hby at_315) k) ?_
                          refine own_go (B := T117.setTop (mkF m 320 #[.val (.int p0), .val (.int p1), .val (.int p2), .val (.int v3), .val (.int sl), .val (.int l2), .val (.int v41), .val (.int v52), .val (.int v63), .val (.int x0), .val (.int x1), .val (.int x2), .val (.int v136), .val (.int v144), .val (.int v152), .val (.ref r_105), .val (.ref r_107), .val (.ref b109), .val (.int v196), .val (.ref b116), .unset] [(.int (1 : Int32))])) (fun _ k => XS.goto X117.here hx rfl (pc0 := 316) (pc' := 320) rfl (hb hby at_316) (by decide) (by decide) k) ?_
                          refine own_go (B := T117.setTop (mkF m 322 #[.val (.int p0), .val (.int p1), .val (.int p2), .val (.int v3), .val (.int sl), .val (.int l2), .val (.int v41), .val (.int v52), .val (.int v63), .val (.int x0), .val (.int x1), .val (.int x2), .val (.int v136), .val (.int v144), .val (.int v152), .val (.ref r_105), .val (.ref r_107), .val (.ref b109), .val (.int v196), .val (.ref b116), .val (.int (1 : Int32))] [])) (fun _ k => XS.istore X117.here hx rfl (hb hby at_320) rfl (l' := #[.val (.int p0), .val (.int p1), .val (.int p2), .val (.int v3), .val (.int sl), .val (.int l2), .val (.int v41), .val (.int v52), .val (.int v63), .val (.int x0), .val (.int x1), .val (.int x2), .val (.int v136), .val (.int v144), .val (.int v152), .val (.ref r_105), .val (.ref r_107), .val (.ref b109), .val (.int v196), .val (.ref b116), .val (.int (1 : Int32))]) rfl k) ?_
                          exact jn322 T117 _ X117 N117 rfl (1 : Int32) (by rw [own_exp (hv3 ▸ own_r4m p2) hl2]; simp [eq_true hc276, hc281, hc288, hc293, hc305])
                        · refine own_go (B := T117.setTop (mkF m 308 #[.val (.int p0), .val (.int p1), .val (.int p2), .val (.int v3), .val (.int sl), .val (.int l2), .val (.int v41), .val (.int v52), .val (.int v63), .val (.int x0), .val (.int x1), .val (.int x2), .val (.int v136), .val (.int v144), .val (.int v152), .val (.ref r_105), .val (.ref r_107), .val (.ref b109), .val (.int v196), .val (.ref b116), .unset] [])) (fun _ k => XS.icmpNo X117.here hx rfl (hb hby at_305) rfl (flt hc305).1 k) ?_
                          refine own_go (B := T117.setTop (mkF m 310 #[.val (.int p0), .val (.int p1), .val (.int p2), .val (.int v3), .val (.int sl), .val (.int l2), .val (.int v41), .val (.int v52), .val (.int v63), .val (.int x0), .val (.int x1), .val (.int x2), .val (.int v136), .val (.int v144), .val (.int v152), .val (.ref r_105), .val (.ref r_107), .val (.ref b109), .val (.int v196), .val (.ref b116), .unset] [(.int v63)])) (fun _ k => XS.iload X117.here hx rfl (hb hby at_308) rfl k) ?_
                          refine own_go (B := T117.setTop (mkF m 312 #[.val (.int p0), .val (.int p1), .val (.int p2), .val (.int v3), .val (.int sl), .val (.int l2), .val (.int v41), .val (.int v52), .val (.int v63), .val (.int x0), .val (.int x1), .val (.int x2), .val (.int v136), .val (.int v144), .val (.int v152), .val (.ref r_105), .val (.ref r_107), .val (.ref b109), .val (.int v196), .val (.ref b116), .unset] [(.int v152), (.int v63)])) (fun _ k => XS.iload X117.here hx rfl (hb hby at_310) rfl k) ?_
                          by_cases hc312 : v63 = v152
                          · refine own_go (B := T117.setTop (mkF m 315 #[.val (.int p0), .val (.int p1), .val (.int p2), .val (.int v3), .val (.int sl), .val (.int l2), .val (.int v41), .val (.int v52), .val (.int v63), .val (.int x0), .val (.int x1), .val (.int x2), .val (.int v136), .val (.int v144), .val (.int v152), .val (.ref r_105), .val (.ref r_107), .val (.ref b109), .val (.int v196), .val (.ref b116), .unset] [])) (fun _ k => XS.icmpNo X117.here hx rfl (hb hby at_312) rfl (teq hc312).2 k) ?_
                            refine own_go (B := T117.setTop (mkF m 316 #[.val (.int p0), .val (.int p1), .val (.int p2), .val (.int v3), .val (.int sl), .val (.int l2), .val (.int v41), .val (.int v52), .val (.int v63), .val (.int x0), .val (.int x1), .val (.int x2), .val (.int v136), .val (.int v144), .val (.int v152), .val (.ref r_105), .val (.ref r_107), .val (.ref b109), .val (.int v196), .val (.ref b116), .unset] [(.int (1 : Int32))])) (fun _ k => XS.iconst X117.here hx rfl (hb hby at_315) k) ?_
                            refine own_go (B := T117.setTop (mkF m 320 #[.val (.int p0), .val (.int p1), .val (.int p2), .val (.int v3), .val (.int sl), .val (.int l2), .val (.int v41), .val (.int v52), .val (.int v63), .val (.int x0), .val (.int x1), .val (.int x2), .val (.int v136), .val (.int v144), .val (.int v152), .val (.ref r_105), .val (.ref r_107), .val (.ref b109), .val (.int v196), .val (.ref b116), .unset] [(.int (1 : Int32))])) (fun _ k => XS.goto X117.here hx rfl (pc0 := 316) (pc' := 320) rfl (hb hby at_316) (by decide) (by decide) k) ?_
                            refine own_go (B := T117.setTop (mkF m 322 #[.val (.int p0), .val (.int p1), .val (.int p2), .val (.int v3), .val (.int sl), .val (.int l2), .val (.int v41), .val (.int v52), .val (.int v63), .val (.int x0), .val (.int x1), .val (.int x2), .val (.int v136), .val (.int v144), .val (.int v152), .val (.ref r_105), .val (.ref r_107), .val (.ref b109), .val (.int v196), .val (.ref b116), .val (.int (1 : Int32))] [])) (fun _ k => XS.istore X117.here hx rfl (hb hby at_320) rfl (l' := #[.val (.int p0), .val (.int p1), .val (.int p2), .val (.int v3), .val (.int sl), .val (.int l2), .val (.int v41), .val (.int v52), .val (.int v63), .val (.int x0), .val (.int x1), .val (.int x2), .val (.int v136), .val (.int v144), .val (.int v152), .val (.ref r_105), .val (.ref r_107), .val (.ref b109), .val (.int v196), .val (.ref b116), .val (.int (1 : Int32))]) rfl k) ?_
                            exact jn322 T117 _ X117 N117 rfl (1 : Int32) (by rw [own_exp (hv3 ▸ own_r4m p2) hl2]; simp [eq_true hc276, hc281, hc288, hc293, hc305, hc312])
                          · refine own_go (B := T117.setTop (mkF m 319 #[.val (.int p0), .val (.int p1), .val (.int p2), .val (.int v3), .val (.int sl), .val (.int l2), .val (.int v41), .val (.int v52), .val (.int v63), .val (.int x0), .val (.int x1), .val (.int x2), .val (.int v136), .val (.int v144), .val (.int v152), .val (.ref r_105), .val (.ref r_107), .val (.ref b109), .val (.int v196), .val (.ref b116), .unset] [])) (fun _ k => XS.icmpYes X117.here hx rfl (pc0 := 312) (pc' := 319) rfl (hb hby at_312) rfl (feq hc312).2 (by decide) (by decide) k) ?_
                            refine own_go (B := T117.setTop (mkF m 320 #[.val (.int p0), .val (.int p1), .val (.int p2), .val (.int v3), .val (.int sl), .val (.int l2), .val (.int v41), .val (.int v52), .val (.int v63), .val (.int x0), .val (.int x1), .val (.int x2), .val (.int v136), .val (.int v144), .val (.int v152), .val (.ref r_105), .val (.ref r_107), .val (.ref b109), .val (.int v196), .val (.ref b116), .unset] [(.int (0 : Int32))])) (fun _ k => XS.iconst X117.here hx rfl (hb hby at_319) k) ?_
                            refine own_go (B := T117.setTop (mkF m 322 #[.val (.int p0), .val (.int p1), .val (.int p2), .val (.int v3), .val (.int sl), .val (.int l2), .val (.int v41), .val (.int v52), .val (.int v63), .val (.int x0), .val (.int x1), .val (.int x2), .val (.int v136), .val (.int v144), .val (.int v152), .val (.ref r_105), .val (.ref r_107), .val (.ref b109), .val (.int v196), .val (.ref b116), .val (.int (0 : Int32))] [])) (fun _ k => XS.istore X117.here hx rfl (hb hby at_320) rfl (l' := #[.val (.int p0), .val (.int p1), .val (.int p2), .val (.int v3), .val (.int sl), .val (.int l2), .val (.int v41), .val (.int v52), .val (.int v63), .val (.int x0), .val (.int x1), .val (.int x2), .val (.int v136), .val (.int v144), .val (.int v152), .val (.ref r_105), .val (.ref r_107), .val (.ref b109), .val (.int v196), .val (.ref b116), .val (.int (0 : Int32))]) rfl k) ?_
                            exact jn322 T117 _ X117 N117 rfl (0 : Int32) (by rw [own_exp (hv3 ▸ own_r4m p2) hl2]; simp [eq_true hc276, hc281, hc288, hc293, hc305, hc312])
                      · refine own_go (B := T117.setTop (mkF m 296 #[.val (.int p0), .val (.int p1), .val (.int p2), .val (.int v3), .val (.int sl), .val (.int l2), .val (.int v41), .val (.int v52), .val (.int v63), .val (.int x0), .val (.int x1), .val (.int x2), .val (.int v136), .val (.int v144), .val (.int v152), .val (.ref r_105), .val (.ref r_107), .val (.ref b109), .val (.int v196), .val (.ref b116), .unset] [])) (fun _ k => XS.icmpNo X117.here hx rfl (hb hby at_293) rfl (flt hc293).1 k) ?_
                        refine own_go (B := T117.setTop (mkF m 298 #[.val (.int p0), .val (.int p1), .val (.int p2), .val (.int v3), .val (.int sl), .val (.int l2), .val (.int v41), .val (.int v52), .val (.int v63), .val (.int x0), .val (.int x1), .val (.int x2), .val (.int v136), .val (.int v144), .val (.int v152), .val (.ref r_105), .val (.ref r_107), .val (.ref b109), .val (.int v196), .val (.ref b116), .unset] [(.int v52)])) (fun _ k => XS.iload X117.here hx rfl (hb hby at_296) rfl k) ?_
                        refine own_go (B := T117.setTop (mkF m 300 #[.val (.int p0), .val (.int p1), .val (.int p2), .val (.int v3), .val (.int sl), .val (.int l2), .val (.int v41), .val (.int v52), .val (.int v63), .val (.int x0), .val (.int x1), .val (.int x2), .val (.int v136), .val (.int v144), .val (.int v152), .val (.ref r_105), .val (.ref r_107), .val (.ref b109), .val (.int v196), .val (.ref b116), .unset] [(.int v144), (.int v52)])) (fun _ k => XS.iload X117.here hx rfl (hb hby at_298) rfl k) ?_
                        by_cases hc300 : v52 = v144
                        · refine own_go (B := T117.setTop (mkF m 303 #[.val (.int p0), .val (.int p1), .val (.int p2), .val (.int v3), .val (.int sl), .val (.int l2), .val (.int v41), .val (.int v52), .val (.int v63), .val (.int x0), .val (.int x1), .val (.int x2), .val (.int v136), .val (.int v144), .val (.int v152), .val (.ref r_105), .val (.ref r_107), .val (.ref b109), .val (.int v196), .val (.ref b116), .unset] [])) (fun _ k => XS.icmpNo X117.here hx rfl (hb hby at_300) rfl (teq hc300).2 k) ?_
                          refine own_go (B := T117.setTop (mkF m 304 #[.val (.int p0), .val (.int p1), .val (.int p2), .val (.int v3), .val (.int sl), .val (.int l2), .val (.int v41), .val (.int v52), .val (.int v63), .val (.int x0), .val (.int x1), .val (.int x2), .val (.int v136), .val (.int v144), .val (.int v152), .val (.ref r_105), .val (.ref r_107), .val (.ref b109), .val (.int v196), .val (.ref b116), .unset] [(.int v3)])) (fun _ k => XS.iloadN X117.here hx rfl (hb hby at_303) rfl k) ?_
                          refine own_go (B := T117.setTop (mkF m 305 #[.val (.int p0), .val (.int p1), .val (.int p2), .val (.int v3), .val (.int sl), .val (.int l2), .val (.int v41), .val (.int v52), .val (.int v63), .val (.int x0), .val (.int x1), .val (.int x2), .val (.int v136), .val (.int v144), .val (.int v152), .val (.ref r_105), .val (.ref r_107), .val (.ref b109), .val (.int v196), .val (.ref b116), .unset] [(.int (3 : Int32)), (.int v3)])) (fun _ k => XS.iconst X117.here hx rfl (hb hby at_304) k) ?_
                          by_cases hc305 : v3 < (3 : Int32)
                          · refine own_go (B := T117.setTop (mkF m 315 #[.val (.int p0), .val (.int p1), .val (.int p2), .val (.int v3), .val (.int sl), .val (.int l2), .val (.int v41), .val (.int v52), .val (.int v63), .val (.int x0), .val (.int x1), .val (.int x2), .val (.int v136), .val (.int v144), .val (.int v152), .val (.ref r_105), .val (.ref r_107), .val (.ref b109), .val (.int v196), .val (.ref b116), .unset] [])) (fun _ k => XS.icmpYes X117.here hx rfl (pc0 := 305) (pc' := 315) rfl (hb hby at_305) rfl (tlt hc305).1 (by decide) (by decide) k) ?_
                            refine own_go (B := T117.setTop (mkF m 316 #[.val (.int p0), .val (.int p1), .val (.int p2), .val (.int v3), .val (.int sl), .val (.int l2), .val (.int v41), .val (.int v52), .val (.int v63), .val (.int x0), .val (.int x1), .val (.int x2), .val (.int v136), .val (.int v144), .val (.int v152), .val (.ref r_105), .val (.ref r_107), .val (.ref b109), .val (.int v196), .val (.ref b116), .unset] [(.int (1 : Int32))])) (fun _ k => XS.iconst X117.here hx rfl (hb hby at_315) k) ?_
                            refine own_go (B := T117.setTop (mkF m 320 #[.val (.int p0), .val (.int p1), .val (.int p2), .val (.int v3), .val (.int sl), .val (.int l2), .val (.int v41), .val (.int v52), .val (.int v63), .val (.int x0), .val (.int x1), .val (.int x2), .val (.int v136), .val (.int v144), .val (.int v152), .val (.ref r_105), .val (.ref r_107), .val (.ref b109), .val (.int v196), .val (.ref b116), .unset] [(.int (1 : Int32))])) (fun _ k => XS.goto X117.here hx rfl (pc0 := 316) (pc' := 320) rfl (hb hby at_316) (by decide) (by decide) k) ?_
                            refine own_go (B := T117.setTop (mkF m 322 #[.val (.int p0), .val (.int p1), .val (.int p2), .val (.int v3), .val (.int sl), .val (.int l2), .val (.int v41), .val (.int v52), .val (.int v63), .val (.int x0), .val (.int x1), .val (.int x2), .val (.int v136), .val (.int v144), .val (.int v152), .val (.ref r_105), .val (.ref r_107), .val (.ref b109), .val (.int v196), .val (.ref b116), .val (.int (1 : Int32))] [])) (fun _ k => XS.istore X117.here hx rfl (hb hby at_320) rfl (l' := #[.val (.int p0), .val (.int p1), .val (.int p2), .val (.int v3), .val (.int sl), .val (.int l2), .val (.int v41), .val (.int v52), .val (.int v63), .val (.int x0), .val (.int x1), .val (.int x2), .val (.int v136), .val (.int v144), .val (.int v152), .val (.ref r_105), .val (.ref r_107), .val (.ref b109), .val (.int v196), .val (.ref b116), .val (.int (1 : Int32))]) rfl k) ?_
                            exact jn322 T117 _ X117 N117 rfl (1 : Int32) (by rw [own_exp (hv3 ▸ own_r4m p2) hl2]; simp [eq_true hc276, hc281, hc288, hc293, hc300, hc305])
                          · refine own_go (B := T117.setTop (mkF m 308 #[.val (.int p0), .val (.int p1), .val (.int p2), .val (.int v3), .val (.int sl), .val (.int l2), .val (.int v41), .val (.int v52), .val (.int v63), .val (.int x0), .val (.int x1), .val (.int x2), .val (.int v136), .val (.int v144), .val (.int v152), .val (.ref r_105), .val (.ref r_107), .val (.ref b109), .val (.int v196), .val (.ref b116), .unset] [])) (fun _ k => XS.icmpNo X117.here hx rfl (hb hby at_305) rfl (flt hc305).1 k) ?_
                            refine own_go (B := T117.setTop (mkF m 310 #[.val (.int p0), .val (.int p1), .val (.int p2), .val (.int v3), .val (.int sl), .val (.int l2), .val (.int v41), .val (.int v52), .val (.int v63), .val (.int x0), .val (.int x1), .val (.int x2), .val (.int v136), .val (.int v144), .val (.int v152), .val (.ref r_105), .val (.ref r_107), .val (.ref b109), .val (.int v196), .val (.ref b116), .unset] [(.int v63)])) (fun _ k => XS.iload X117.here hx rfl (hb hby at_308) rfl k) ?_
                            refine own_go (B := T117.setTop (mkF m 312 #[.val (.int p0), .val (.int p1), .val (.int p2), .val (.int v3), .val (.int sl), .val (.int l2), .val (.int v41), .val (.int v52), .val (.int v63), .val (.int x0), .val (.int x1), .val (.int x2), .val (.int v136), .val (.int v144), .val (.int v152), .val (.ref r_105), .val (.ref r_107), .val (.ref b109), .val (.int v196), .val (.ref b116), .unset] [(.int v152), (.int v63)])) (fun _ k => XS.iload X117.here hx rfl (hb hby at_310) rfl k) ?_
                            by_cases hc312 : v63 = v152
                            · refine own_go (B := T117.setTop (mkF m 315 #[.val (.int p0), .val (.int p1), .val (.int p2), .val (.int v3), .val (.int sl), .val (.int l2), .val (.int v41), .val (.int v52), .val (.int v63), .val (.int x0), .val (.int x1), .val (.int x2), .val (.int v136), .val (.int v144), .val (.int v152), .val (.ref r_105), .val (.ref r_107), .val (.ref b109), .val (.int v196), .val (.ref b116), .unset] [])) (fun _ k => XS.icmpNo X117.here hx rfl (hb hby at_312) rfl (teq hc312).2 k) ?_
                              refine own_go (B := T117.setTop (mkF m 316 #[.val (.int p0), .val (.int p1), .val (.int p2), .val (.int v3), .val (.int sl), .val (.int l2), .val (.int v41), .val (.int v52), .val (.int v63), .val (.int x0), .val (.int x1), .val (.int x2), .val (.int v136), .val (.int v144), .val (.int v152), .val (.ref r_105), .val (.ref r_107), .val (.ref b109), .val (.int v196), .val (.ref b116), .unset] [(.int (1 : Int32))])) (fun _ k => XS.iconst X117.here hx rfl (hb hby at_315) k) ?_
                              refine own_go (B := T117.setTop (mkF m 320 #[.val (.int p0), .val (.int p1), .val (.int p2), .val (.int v3), .val (.int sl), .val (.int l2), .val (.int v41), .val (.int v52), .val (.int v63), .val (.int x0), .val (.int x1), .val (.int x2), .val (.int v136), .val (.int v144), .val (.int v152), .val (.ref r_105), .val (.ref r_107), .val (.ref b109), .val (.int v196), .val (.ref b116), .unset] [(.int (1 : Int32))])) (fun _ k => XS.goto X117.here hx rfl (pc0 := 316) (pc' := 320) rfl (hb hby at_316) (by decide) (by decide) k) ?_
                              refine own_go (B := T117.setTop (mkF m 322 #[.val (.int p0), .val (.int p1), .val (.int p2), .val (.int v3), .val (.int sl), .val (.int l2), .val (.int v41), .val (.int v52), .val (.int v63), .val (.int x0), .val (.int x1), .val (.int x2), .val (.int v136), .val (.int v144), .val (.int v152), .val (.ref r_105), .val (.ref r_107), .val (.ref b109), .val (.int v196), .val (.ref b116), .val (.int (1 : Int32))] [])) (fun _ k => XS.istore X117.here hx rfl (hb hby at_320) rfl (l' := #[.val (.int p0), .val (.int p1), .val (.int p2), .val (.int v3), .val (.int sl), .val (.int l2), .val (.int v41), .val (.int v52), .val (.int v63), .val (.int x0), .val (.int x1), .val (.int x2), .val (.int v136), .val (.int v144), .val (.int v152), .val (.ref r_105), .val (.ref r_107), .val (.ref b109), .val (.int v196), .val (.ref b116), .val (.int (1 : Int32))]) rfl k) ?_
                              exact jn322 T117 _ X117 N117 rfl (1 : Int32) (by rw [own_exp (hv3 ▸ own_r4m p2) hl2]; simp [eq_true hc276, hc281, hc288, hc293, hc300, hc305, hc312])
                            · refine own_go (B := T117.setTop (mkF m 319 #[.val (.int p0), .val (.int p1), .val (.int p2), .val (.int v3), .val (.int sl), .val (.int l2), .val (.int v41), .val (.int v52), .val (.int v63), .val (.int x0), .val (.int x1), .val (.int x2), .val (.int v136), .val (.int v144), .val (.int v152), .val (.ref r_105), .val (.ref r_107), .val (.ref b109), .val (.int v196), .val (.ref b116), .unset] [])) (fun _ k => XS.icmpYes X117.here hx rfl (pc0 := 312) (pc' := 319) rfl (hb hby at_312) rfl (feq hc312).2 (by decide) (by decide) k) ?_
                              refine own_go (B := T117.setTop (mkF m 320 #[.val (.int p0), .val (.int p1), .val (.int p2), .val (.int v3), .val (.int sl), .val (.int l2), .val (.int v41), .val (.int v52), .val (.int v63), .val (.int x0), .val (.int x1), .val (.int x2), .val (.int v136), .val (.int v144), .val (.int v152), .val (.ref r_105), .val (.ref r_107), .val (.ref b109), .val (.int v196), .val (.ref b116), .unset] [(.int (0 : Int32))])) (fun _ k => XS.iconst X117.here hx rfl (hb hby at_319) k) ?_
                              refine own_go (B := T117.setTop (mkF m 322 #[.val (.int p0), .val (.int p1), .val (.int p2), .val (.int v3), .val (.int sl), .val (.int l2), .val (.int v41), .val (.int v52), .val (.int v63), .val (.int x0), .val (.int x1), .val (.int x2), .val (.int v136), .val (.int v144), .val (.int v152), .val (.ref r_105), .val (.ref r_107), .val (.ref b109), .val (.int v196), .val (.ref b116), .val (.int (0 : Int32))] [])) (fun _ k => XS.istore X117.here hx rfl (hb hby at_320) rfl (l' := #[.val (.int p0), .val (.int p1), .val (.int p2), .val (.int v3), .val (.int sl), .val (.int l2), .val (.int v41), .val (.int v52), .val (.int v63), .val (.int x0), .val (.int x1), .val (.int x2), .val (.int v136), .val (.int v144), .val (.int v152), .val (.ref r_105), .val (.ref r_107), .val (.ref b109), .val (.int v196), .val (.ref b116), .val (.int (0 : Int32))]) rfl k) ?_
                              exact jn322 T117 _ X117 N117 rfl (0 : Int32) (by rw [own_exp (hv3 ▸ own_r4m p2) hl2]; simp [eq_true hc276, hc281, hc288, hc293, hc300, hc305, hc312])
                        · refine own_go (B := T117.setTop (mkF m 319 #[.val (.int p0), .val (.int p1), .val (.int p2), .val (.int v3), .val (.int sl), .val (.int l2), .val (.int v41), .val (.int v52), .val (.int v63), .val (.int x0), .val (.int x1), .val (.int x2), .val (.int v136), .val (.int v144), .val (.int v152), .val (.ref r_105), .val (.ref r_107), .val (.ref b109), .val (.int v196), .val (.ref b116), .unset] [])) (fun _ k => XS.icmpYes X117.here hx rfl (pc0 := 300) (pc' := 319) rfl (hb hby at_300) rfl (feq hc300).2 (by decide) (by decide) k) ?_
                          refine own_go (B := T117.setTop (mkF m 320 #[.val (.int p0), .val (.int p1), .val (.int p2), .val (.int v3), .val (.int sl), .val (.int l2), .val (.int v41), .val (.int v52), .val (.int v63), .val (.int x0), .val (.int x1), .val (.int x2), .val (.int v136), .val (.int v144), .val (.int v152), .val (.ref r_105), .val (.ref r_107), .val (.ref b109), .val (.int v196), .val (.ref b116), .unset] [(.int (0 : Int32))])) (fun _ k => XS.iconst X117.here hx rfl (hb hby at_319) k) ?_
                          refine own_go (B := T117.setTop (mkF m 322 #[.val (.int p0), .val (.int p1), .val (.int p2), .val (.int v3), .val (.int sl), .val (.int l2), .val (.int v41), .val (.int v52), .val (.int v63), .val (.int x0), .val (.int x1), .val (.int x2), .val (.int v136), .val (.int v144), .val (.int v152), .val (.ref r_105), .val (.ref r_107), .val (.ref b109), .val (.int v196), .val (.ref b116), .val (.int (0 : Int32))] [])) (fun _ k => XS.istore X117.here hx rfl (hb hby at_320) rfl (l' := #[.val (.int p0), .val (.int p1), .val (.int p2), .val (.int v3), .val (.int sl), .val (.int l2), .val (.int v41), .val (.int v52), .val (.int v63), .val (.int x0), .val (.int x1), .val (.int x2), .val (.int v136), .val (.int v144), .val (.int v152), .val (.ref r_105), .val (.ref r_107), .val (.ref b109), .val (.int v196), .val (.ref b116), .val (.int (0 : Int32))]) rfl k) ?_
                          exact jn322 T117 _ X117 N117 rfl (0 : Int32) (by rw [own_exp (hv3 ▸ own_r4m p2) hl2]; simp [eq_true hc276, hc281, hc288, hc293, hc300])
                    · refine own_go (B := T117.setTop (mkF m 319 #[.val (.int p0), .val (.int p1), .val (.int p2), .val (.int v3), .val (.int sl), .val (.int l2), .val (.int v41), .val (.int v52), .val (.int v63), .val (.int x0), .val (.int x1), .val (.int x2), .val (.int v136), .val (.int v144), .val (.int v152), .val (.ref r_105), .val (.ref r_107), .val (.ref b109), .val (.int v196), .val (.ref b116), .unset] [])) (fun _ k => XS.icmpYes X117.here hx rfl (pc0 := 288) (pc' := 319) rfl (hb hby at_288) rfl (feq hc288).2 (by decide) (by decide) k) ?_
                      refine own_go (B := T117.setTop (mkF m 320 #[.val (.int p0), .val (.int p1), .val (.int p2), .val (.int v3), .val (.int sl), .val (.int l2), .val (.int v41), .val (.int v52), .val (.int v63), .val (.int x0), .val (.int x1), .val (.int x2), .val (.int v136), .val (.int v144), .val (.int v152), .val (.ref r_105), .val (.ref r_107), .val (.ref b109), .val (.int v196), .val (.ref b116), .unset] [(.int (0 : Int32))])) (fun _ k => XS.iconst X117.here hx rfl (hb hby at_319) k) ?_
                      refine own_go (B := T117.setTop (mkF m 322 #[.val (.int p0), .val (.int p1), .val (.int p2), .val (.int v3), .val (.int sl), .val (.int l2), .val (.int v41), .val (.int v52), .val (.int v63), .val (.int x0), .val (.int x1), .val (.int x2), .val (.int v136), .val (.int v144), .val (.int v152), .val (.ref r_105), .val (.ref r_107), .val (.ref b109), .val (.int v196), .val (.ref b116), .val (.int (0 : Int32))] [])) (fun _ k => XS.istore X117.here hx rfl (hb hby at_320) rfl (l' := #[.val (.int p0), .val (.int p1), .val (.int p2), .val (.int v3), .val (.int sl), .val (.int l2), .val (.int v41), .val (.int v52), .val (.int v63), .val (.int x0), .val (.int x1), .val (.int x2), .val (.int v136), .val (.int v144), .val (.int v152), .val (.ref r_105), .val (.ref r_107), .val (.ref b109), .val (.int v196), .val (.ref b116), .val (.int (0 : Int32))]) rfl k) ?_
                      exact jn322 T117 _ X117 N117 rfl (0 : Int32) (by rw [own_exp (hv3 ▸ own_r4m p2) hl2]; simp [eq_true hc276, hc281, hc288])
                · refine own_go (B := T117.setTop (mkF m 319 #[.val (.int p0), .val (.int p1), .val (.int p2), .val (.int v3), .val (.int sl), .val (.int l2), .val (.int v41), .val (.int v52), .val (.int v63), .val (.int x0), .val (.int x1), .val (.int x2), .val (.int v136), .val (.int v144), .val (.int v152), .val (.ref r_105), .val (.ref r_107), .val (.ref b109), .val (.int v196), .val (.ref b116), .unset] [])) (fun _ k => XS.icmpYes X117.here hx rfl (pc0 := 276) (pc' := 319) rfl (hb hby at_276) rfl (feq hc276).2 (by decide) (by decide) k) ?_
                  refine own_go (B := T117.setTop (mkF m 320 #[.val (.int p0), .val (.int p1), .val (.int p2), .val (.int v3), .val (.int sl), .val (.int l2), .val (.int v41), .val (.int v52), .val (.int v63), .val (.int x0), .val (.int x1), .val (.int x2), .val (.int v136), .val (.int v144), .val (.int v152), .val (.ref r_105), .val (.ref r_107), .val (.ref b109), .val (.int v196), .val (.ref b116), .unset] [(.int (0 : Int32))])) (fun _ k => XS.iconst X117.here hx rfl (hb hby at_319) k) ?_
                  refine own_go (B := T117.setTop (mkF m 322 #[.val (.int p0), .val (.int p1), .val (.int p2), .val (.int v3), .val (.int sl), .val (.int l2), .val (.int v41), .val (.int v52), .val (.int v63), .val (.int x0), .val (.int x1), .val (.int x2), .val (.int v136), .val (.int v144), .val (.int v152), .val (.ref r_105), .val (.ref r_107), .val (.ref b109), .val (.int v196), .val (.ref b116), .val (.int (0 : Int32))] [])) (fun _ k => XS.istore X117.here hx rfl (hb hby at_320) rfl (l' := #[.val (.int p0), .val (.int p1), .val (.int p2), .val (.int v3), .val (.int sl), .val (.int l2), .val (.int v41), .val (.int v52), .val (.int v63), .val (.int x0), .val (.int x1), .val (.int x2), .val (.int v136), .val (.int v144), .val (.int v152), .val (.ref r_105), .val (.ref r_107), .val (.ref b109), .val (.int v196), .val (.ref b116), .val (.int (0 : Int32))]) rfl k) ?_
                  exact jn322 T117 _ X117 N117 rfl (0 : Int32) (by rw [own_exp (hv3 ▸ own_r4m p2) hl2]; simp [hc276])
        refine own_go (B := Tj.setTop (mkF m 108 #[.val (.int p0), .val (.int p1), .val (.int p2), .val (.int v3), .val (.int sl), .val (.int l2), .val (.int v41), .val (.int v52), .val (.int v63), .val (.int x0), .val (.int x1), .unset, .unset, .unset, .unset, .unset, .unset, .unset, .unset, .unset, .unset] [(.int p2)])) (fun _ k => XS.iloadN Xj.here hx rfl (hb hby at_107) rfl k) ?_
        refine own_go (B := Tj.setTop (mkF m 110 #[.val (.int p0), .val (.int p1), .val (.int p2), .val (.int v3), .val (.int sl), .val (.int l2), .val (.int v41), .val (.int v52), .val (.int v63), .val (.int x0), .val (.int x1), .unset, .unset, .unset, .unset, .unset, .unset, .unset, .unset, .unset, .unset] [(.int (7 : Int32)), (.int p2)])) (fun _ k => XS.bipush Xj.here hx rfl (hb hby at_108) k) ?_
        refine own_go (B := Tj.setTop (mkF m 111 #[.val (.int p0), .val (.int p1), .val (.int p2), .val (.int v3), .val (.int sl), .val (.int l2), .val (.int v41), .val (.int v52), .val (.int v63), .val (.int x0), .val (.int x1), .unset, .unset, .unset, .unset, .unset, .unset, .unset, .unset, .unset, .unset] [(.int ((p2.toUInt32 >>> ((7 : Int32) &&& 31).toUInt32).toInt32))])) (fun _ k => XS.iushr Xj.here hx rfl (hb hby at_110) rfl k) ?_
        refine own_go (B := Tj.setTop (mkF m 112 #[.val (.int p0), .val (.int p1), .val (.int p2), .val (.int v3), .val (.int sl), .val (.int l2), .val (.int v41), .val (.int v52), .val (.int v63), .val (.int x0), .val (.int x1), .unset, .unset, .unset, .unset, .unset, .unset, .unset, .unset, .unset, .unset] [(.int (1 : Int32)), (.int ((p2.toUInt32 >>> ((7 : Int32) &&& 31).toUInt32).toInt32))])) (fun _ k => XS.iconst Xj.here hx rfl (hb hby at_111) k) ?_
        refine own_go (B := Tj.setTop (mkF m 113 #[.val (.int p0), .val (.int p1), .val (.int p2), .val (.int v3), .val (.int sl), .val (.int l2), .val (.int v41), .val (.int v52), .val (.int v63), .val (.int x0), .val (.int x1), .unset, .unset, .unset, .unset, .unset, .unset, .unset, .unset, .unset, .unset] [(.int (((p2.toUInt32 >>> ((7 : Int32) &&& 31).toUInt32).toInt32) &&& (1 : Int32)))])) (fun _ k => XS.iand Xj.here hx rfl (hb hby at_112) rfl k) ?_
        by_cases hc113 : (((p2.toUInt32 >>> ((7 : Int32) &&& 31).toUInt32).toInt32) &&& (1 : Int32)) = (0 : Int32)
        · refine own_go (B := Tj.setTop (mkF m 127 #[.val (.int p0), .val (.int p1), .val (.int p2), .val (.int v3), .val (.int sl), .val (.int l2), .val (.int v41), .val (.int v52), .val (.int v63), .val (.int x0), .val (.int x1), .unset, .unset, .unset, .unset, .unset, .unset, .unset, .unset, .unset, .unset] [])) (fun _ k => XS.ifYes Xj.here hx rfl (pc0 := 113) (pc' := 127) rfl (hb hby at_113) rfl ((if0 _ _).trans (teq hc113).1) (by decide) (by decide) k) ?_
          refine own_go (B := Tj.setTop (mkF m 128 #[.val (.int p0), .val (.int p1), .val (.int p2), .val (.int v3), .val (.int sl), .val (.int l2), .val (.int v41), .val (.int v52), .val (.int v63), .val (.int x0), .val (.int x1), .unset, .unset, .unset, .unset, .unset, .unset, .unset, .unset, .unset, .unset] [(.int (0 : Int32))])) (fun _ k => XS.iconst Xj.here hx rfl (hb hby at_127) k) ?_
          refine own_go (B := Tj.setTop (mkF m 130 #[.val (.int p0), .val (.int p1), .val (.int p2), .val (.int v3), .val (.int sl), .val (.int l2), .val (.int v41), .val (.int v52), .val (.int v63), .val (.int x0), .val (.int x1), .val (.int (0 : Int32)), .unset, .unset, .unset, .unset, .unset, .unset, .unset, .unset, .unset] [])) (fun _ k => XS.istore Xj.here hx rfl (hb hby at_128) rfl (l' := #[.val (.int p0), .val (.int p1), .val (.int p2), .val (.int v3), .val (.int sl), .val (.int l2), .val (.int v41), .val (.int v52), .val (.int v63), .val (.int x0), .val (.int x1), .val (.int (0 : Int32)), .unset, .unset, .unset, .unset, .unset, .unset, .unset, .unset, .unset]) rfl k) ?_
          exact jn130 Tj _ Xj Nj107 ej (0 : Int32) own_rg0
        · refine own_go (B := Tj.setTop (mkF m 116 #[.val (.int p0), .val (.int p1), .val (.int p2), .val (.int v3), .val (.int sl), .val (.int l2), .val (.int v41), .val (.int v52), .val (.int v63), .val (.int x0), .val (.int x1), .unset, .unset, .unset, .unset, .unset, .unset, .unset, .unset, .unset, .unset] [])) (fun _ k => XS.ifNo Xj.here hx rfl (hb hby at_113) rfl ((if0 _ _).trans (feq hc113).1) k) ?_
          refine own_go (B := Tj.setTop (mkF m 117 #[.val (.int p0), .val (.int p1), .val (.int p2), .val (.int v3), .val (.int sl), .val (.int l2), .val (.int v41), .val (.int v52), .val (.int v63), .val (.int x0), .val (.int x1), .unset, .unset, .unset, .unset, .unset, .unset, .unset, .unset, .unset, .unset] [(.int p1)])) (fun _ k => XS.iloadN Xj.here hx rfl (hb hby at_116) rfl k) ?_
          refine own_go (B := Tj.setTop (mkF m 119 #[.val (.int p0), .val (.int p1), .val (.int p2), .val (.int v3), .val (.int sl), .val (.int l2), .val (.int v41), .val (.int v52), .val (.int v63), .val (.int x0), .val (.int x1), .unset, .unset, .unset, .unset, .unset, .unset, .unset, .unset, .unset, .unset] [(.int (16 : Int32)), (.int p1)])) (fun _ k => XS.bipush Xj.here hx rfl (hb hby at_117) k) ?_
          refine own_go (B := Tj.setTop (mkF m 120 #[.val (.int p0), .val (.int p1), .val (.int p2), .val (.int v3), .val (.int sl), .val (.int l2), .val (.int v41), .val (.int v52), .val (.int v63), .val (.int x0), .val (.int x1), .unset, .unset, .unset, .unset, .unset, .unset, .unset, .unset, .unset, .unset] [(.int ((p1.toUInt32 >>> ((16 : Int32) &&& 31).toUInt32).toInt32))])) (fun _ k => XS.iushr Xj.here hx rfl (hb hby at_119) rfl k) ?_
          refine own_go (B := Tj.setTop (mkF m 123 #[.val (.int p0), .val (.int p1), .val (.int p2), .val (.int v3), .val (.int sl), .val (.int l2), .val (.int v41), .val (.int v52), .val (.int v63), .val (.int x0), .val (.int x1), .unset, .unset, .unset, .unset, .unset, .unset, .unset, .unset, .unset, .unset] [(.int (255 : Int32)), (.int ((p1.toUInt32 >>> ((16 : Int32) &&& 31).toUInt32).toInt32))])) (fun _ k => XS.sipush Xj.here hx rfl (hb hby at_120) k) ?_
          refine own_go (B := Tj.setTop (mkF m 124 #[.val (.int p0), .val (.int p1), .val (.int p2), .val (.int v3), .val (.int sl), .val (.int l2), .val (.int v41), .val (.int v52), .val (.int v63), .val (.int x0), .val (.int x1), .unset, .unset, .unset, .unset, .unset, .unset, .unset, .unset, .unset, .unset] [(.int (((p1.toUInt32 >>> ((16 : Int32) &&& 31).toUInt32).toInt32) &&& (255 : Int32)))])) (fun _ k => XS.iand Xj.here hx rfl (hb hby at_123) rfl k) ?_
          refine own_go (B := Tj.setTop (mkF m 128 #[.val (.int p0), .val (.int p1), .val (.int p2), .val (.int v3), .val (.int sl), .val (.int l2), .val (.int v41), .val (.int v52), .val (.int v63), .val (.int x0), .val (.int x1), .unset, .unset, .unset, .unset, .unset, .unset, .unset, .unset, .unset, .unset] [(.int (((p1.toUInt32 >>> ((16 : Int32) &&& 31).toUInt32).toInt32) &&& (255 : Int32)))])) (fun _ k => XS.goto Xj.here hx rfl (pc0 := 124) (pc' := 128) rfl (hb hby at_124) (by decide) (by decide) k) ?_
          generalize hv128 : (((p1.toUInt32 >>> ((16 : Int32) &&& 31).toUInt32).toInt32) &&& (255 : Int32)) = v128
          refine own_go (B := Tj.setTop (mkF m 130 #[.val (.int p0), .val (.int p1), .val (.int p2), .val (.int v3), .val (.int sl), .val (.int l2), .val (.int v41), .val (.int v52), .val (.int v63), .val (.int x0), .val (.int x1), .val (.int v128), .unset, .unset, .unset, .unset, .unset, .unset, .unset, .unset, .unset] [])) (fun _ k => XS.istore Xj.here hx rfl (hb hby at_128) rfl (l' := #[.val (.int p0), .val (.int p1), .val (.int p2), .val (.int v3), .val (.int sl), .val (.int l2), .val (.int v41), .val (.int v52), .val (.int v63), .val (.int x0), .val (.int x1), .val (.int v128), .unset, .unset, .unset, .unset, .unset, .unset, .unset, .unset, .unset]) rfl k) ?_
          exact jn130 Tj _ Xj Nj107 ej v128 (hv128 ▸ own_m255 _)
      refine own_go (B := Tj.setTop (mkF m 85 #[.val (.int p0), .val (.int p1), .val (.int p2), .val (.int v3), .val (.int sl), .val (.int l2), .val (.int v41), .val (.int v52), .val (.int v63), .val (.int x0), .unset, .unset, .unset, .unset, .unset, .unset, .unset, .unset, .unset, .unset, .unset] [(.int p2)])) (fun _ k => XS.iloadN Xj.here hx rfl (hb hby at_84) rfl k) ?_
      refine own_go (B := Tj.setTop (mkF m 87 #[.val (.int p0), .val (.int p1), .val (.int p2), .val (.int v3), .val (.int sl), .val (.int l2), .val (.int v41), .val (.int v52), .val (.int v63), .val (.int x0), .unset, .unset, .unset, .unset, .unset, .unset, .unset, .unset, .unset, .unset, .unset] [(.int (6 : Int32)), (.int p2)])) (fun _ k => XS.bipush Xj.here hx rfl (hb hby at_85) k) ?_
      refine own_go (B := Tj.setTop (mkF m 88 #[.val (.int p0), .val (.int p1), .val (.int p2), .val (.int v3), .val (.int sl), .val (.int l2), .val (.int v41), .val (.int v52), .val (.int v63), .val (.int x0), .unset, .unset, .unset, .unset, .unset, .unset, .unset, .unset, .unset, .unset, .unset] [(.int ((p2.toUInt32 >>> ((6 : Int32) &&& 31).toUInt32).toInt32))])) (fun _ k => XS.iushr Xj.here hx rfl (hb hby at_87) rfl k) ?_
      refine own_go (B := Tj.setTop (mkF m 89 #[.val (.int p0), .val (.int p1), .val (.int p2), .val (.int v3), .val (.int sl), .val (.int l2), .val (.int v41), .val (.int v52), .val (.int v63), .val (.int x0), .unset, .unset, .unset, .unset, .unset, .unset, .unset, .unset, .unset, .unset, .unset] [(.int (1 : Int32)), (.int ((p2.toUInt32 >>> ((6 : Int32) &&& 31).toUInt32).toInt32))])) (fun _ k => XS.iconst Xj.here hx rfl (hb hby at_88) k) ?_
      refine own_go (B := Tj.setTop (mkF m 90 #[.val (.int p0), .val (.int p1), .val (.int p2), .val (.int v3), .val (.int sl), .val (.int l2), .val (.int v41), .val (.int v52), .val (.int v63), .val (.int x0), .unset, .unset, .unset, .unset, .unset, .unset, .unset, .unset, .unset, .unset, .unset] [(.int (((p2.toUInt32 >>> ((6 : Int32) &&& 31).toUInt32).toInt32) &&& (1 : Int32)))])) (fun _ k => XS.iand Xj.here hx rfl (hb hby at_89) rfl k) ?_
      by_cases hc90 : (((p2.toUInt32 >>> ((6 : Int32) &&& 31).toUInt32).toInt32) &&& (1 : Int32)) = (0 : Int32)
      · refine own_go (B := Tj.setTop (mkF m 104 #[.val (.int p0), .val (.int p1), .val (.int p2), .val (.int v3), .val (.int sl), .val (.int l2), .val (.int v41), .val (.int v52), .val (.int v63), .val (.int x0), .unset, .unset, .unset, .unset, .unset, .unset, .unset, .unset, .unset, .unset, .unset] [])) (fun _ k => XS.ifYes Xj.here hx rfl (pc0 := 90) (pc' := 104) rfl (hb hby at_90) rfl ((if0 _ _).trans (teq hc90).1) (by decide) (by decide) k) ?_
        refine own_go (B := Tj.setTop (mkF m 105 #[.val (.int p0), .val (.int p1), .val (.int p2), .val (.int v3), .val (.int sl), .val (.int l2), .val (.int v41), .val (.int v52), .val (.int v63), .val (.int x0), .unset, .unset, .unset, .unset, .unset, .unset, .unset, .unset, .unset, .unset, .unset] [(.int (0 : Int32))])) (fun _ k => XS.iconst Xj.here hx rfl (hb hby at_104) k) ?_
        refine own_go (B := Tj.setTop (mkF m 107 #[.val (.int p0), .val (.int p1), .val (.int p2), .val (.int v3), .val (.int sl), .val (.int l2), .val (.int v41), .val (.int v52), .val (.int v63), .val (.int x0), .val (.int (0 : Int32)), .unset, .unset, .unset, .unset, .unset, .unset, .unset, .unset, .unset, .unset] [])) (fun _ k => XS.istore Xj.here hx rfl (hb hby at_105) rfl (l' := #[.val (.int p0), .val (.int p1), .val (.int p2), .val (.int v3), .val (.int sl), .val (.int l2), .val (.int v41), .val (.int v52), .val (.int v63), .val (.int x0), .val (.int (0 : Int32)), .unset, .unset, .unset, .unset, .unset, .unset, .unset, .unset, .unset, .unset]) rfl k) ?_
        exact jn107 Tj _ Xj Nj84 ej (0 : Int32) own_rg0
      · refine own_go (B := Tj.setTop (mkF m 93 #[.val (.int p0), .val (.int p1), .val (.int p2), .val (.int v3), .val (.int sl), .val (.int l2), .val (.int v41), .val (.int v52), .val (.int v63), .val (.int x0), .unset, .unset, .unset, .unset, .unset, .unset, .unset, .unset, .unset, .unset, .unset] [])) (fun _ k => XS.ifNo Xj.here hx rfl (hb hby at_90) rfl ((if0 _ _).trans (feq hc90).1) k) ?_
        refine own_go (B := Tj.setTop (mkF m 94 #[.val (.int p0), .val (.int p1), .val (.int p2), .val (.int v3), .val (.int sl), .val (.int l2), .val (.int v41), .val (.int v52), .val (.int v63), .val (.int x0), .unset, .unset, .unset, .unset, .unset, .unset, .unset, .unset, .unset, .unset, .unset] [(.int p1)])) (fun _ k => XS.iloadN Xj.here hx rfl (hb hby at_93) rfl k) ?_
        refine own_go (B := Tj.setTop (mkF m 96 #[.val (.int p0), .val (.int p1), .val (.int p2), .val (.int v3), .val (.int sl), .val (.int l2), .val (.int v41), .val (.int v52), .val (.int v63), .val (.int x0), .unset, .unset, .unset, .unset, .unset, .unset, .unset, .unset, .unset, .unset, .unset] [(.int (8 : Int32)), (.int p1)])) (fun _ k => XS.bipush Xj.here hx rfl (hb hby at_94) k) ?_
        refine own_go (B := Tj.setTop (mkF m 97 #[.val (.int p0), .val (.int p1), .val (.int p2), .val (.int v3), .val (.int sl), .val (.int l2), .val (.int v41), .val (.int v52), .val (.int v63), .val (.int x0), .unset, .unset, .unset, .unset, .unset, .unset, .unset, .unset, .unset, .unset, .unset] [(.int ((p1.toUInt32 >>> ((8 : Int32) &&& 31).toUInt32).toInt32))])) (fun _ k => XS.iushr Xj.here hx rfl (hb hby at_96) rfl k) ?_
        refine own_go (B := Tj.setTop (mkF m 100 #[.val (.int p0), .val (.int p1), .val (.int p2), .val (.int v3), .val (.int sl), .val (.int l2), .val (.int v41), .val (.int v52), .val (.int v63), .val (.int x0), .unset, .unset, .unset, .unset, .unset, .unset, .unset, .unset, .unset, .unset, .unset] [(.int (255 : Int32)), (.int ((p1.toUInt32 >>> ((8 : Int32) &&& 31).toUInt32).toInt32))])) (fun _ k => XS.sipush Xj.here hx rfl (hb hby at_97) k) ?_
        refine own_go (B := Tj.setTop (mkF m 101 #[.val (.int p0), .val (.int p1), .val (.int p2), .val (.int v3), .val (.int sl), .val (.int l2), .val (.int v41), .val (.int v52), .val (.int v63), .val (.int x0), .unset, .unset, .unset, .unset, .unset, .unset, .unset, .unset, .unset, .unset, .unset] [(.int (((p1.toUInt32 >>> ((8 : Int32) &&& 31).toUInt32).toInt32) &&& (255 : Int32)))])) (fun _ k => XS.iand Xj.here hx rfl (hb hby at_100) rfl k) ?_
        refine own_go (B := Tj.setTop (mkF m 105 #[.val (.int p0), .val (.int p1), .val (.int p2), .val (.int v3), .val (.int sl), .val (.int l2), .val (.int v41), .val (.int v52), .val (.int v63), .val (.int x0), .unset, .unset, .unset, .unset, .unset, .unset, .unset, .unset, .unset, .unset, .unset] [(.int (((p1.toUInt32 >>> ((8 : Int32) &&& 31).toUInt32).toInt32) &&& (255 : Int32)))])) (fun _ k => XS.goto Xj.here hx rfl (pc0 := 101) (pc' := 105) rfl (hb hby at_101) (by decide) (by decide) k) ?_
        generalize hv105 : (((p1.toUInt32 >>> ((8 : Int32) &&& 31).toUInt32).toInt32) &&& (255 : Int32)) = v105
        refine own_go (B := Tj.setTop (mkF m 107 #[.val (.int p0), .val (.int p1), .val (.int p2), .val (.int v3), .val (.int sl), .val (.int l2), .val (.int v41), .val (.int v52), .val (.int v63), .val (.int x0), .val (.int v105), .unset, .unset, .unset, .unset, .unset, .unset, .unset, .unset, .unset, .unset] [])) (fun _ k => XS.istore Xj.here hx rfl (hb hby at_105) rfl (l' := #[.val (.int p0), .val (.int p1), .val (.int p2), .val (.int v3), .val (.int sl), .val (.int l2), .val (.int v41), .val (.int v52), .val (.int v63), .val (.int x0), .val (.int v105), .unset, .unset, .unset, .unset, .unset, .unset, .unset, .unset, .unset, .unset]) rfl k) ?_
        exact jn107 Tj _ Xj Nj84 ej v105 (hv105 ▸ own_m255 _)
    refine own_go (B := Tj.setTop (mkF m 66 #[.val (.int p0), .val (.int p1), .val (.int p2), .val (.int v3), .val (.int sl), .val (.int l2), .val (.int v41), .val (.int v52), .val (.int v63), .unset, .unset, .unset, .unset, .unset, .unset, .unset, .unset, .unset, .unset, .unset, .unset] [(.int p2)])) (fun _ k => XS.iloadN Xj.here hx rfl (hb hby at_65) rfl k) ?_
    refine own_go (B := Tj.setTop (mkF m 67 #[.val (.int p0), .val (.int p1), .val (.int p2), .val (.int v3), .val (.int sl), .val (.int l2), .val (.int v41), .val (.int v52), .val (.int v63), .unset, .unset, .unset, .unset, .unset, .unset, .unset, .unset, .unset, .unset, .unset, .unset] [(.int (5 : Int32)), (.int p2)])) (fun _ k => XS.iconst Xj.here hx rfl (hb hby at_66) k) ?_
    refine own_go (B := Tj.setTop (mkF m 68 #[.val (.int p0), .val (.int p1), .val (.int p2), .val (.int v3), .val (.int sl), .val (.int l2), .val (.int v41), .val (.int v52), .val (.int v63), .unset, .unset, .unset, .unset, .unset, .unset, .unset, .unset, .unset, .unset, .unset, .unset] [(.int ((p2.toUInt32 >>> ((5 : Int32) &&& 31).toUInt32).toInt32))])) (fun _ k => XS.iushr Xj.here hx rfl (hb hby at_67) rfl k) ?_
    refine own_go (B := Tj.setTop (mkF m 69 #[.val (.int p0), .val (.int p1), .val (.int p2), .val (.int v3), .val (.int sl), .val (.int l2), .val (.int v41), .val (.int v52), .val (.int v63), .unset, .unset, .unset, .unset, .unset, .unset, .unset, .unset, .unset, .unset, .unset, .unset] [(.int (1 : Int32)), (.int ((p2.toUInt32 >>> ((5 : Int32) &&& 31).toUInt32).toInt32))])) (fun _ k => XS.iconst Xj.here hx rfl (hb hby at_68) k) ?_
    refine own_go (B := Tj.setTop (mkF m 70 #[.val (.int p0), .val (.int p1), .val (.int p2), .val (.int v3), .val (.int sl), .val (.int l2), .val (.int v41), .val (.int v52), .val (.int v63), .unset, .unset, .unset, .unset, .unset, .unset, .unset, .unset, .unset, .unset, .unset, .unset] [(.int (((p2.toUInt32 >>> ((5 : Int32) &&& 31).toUInt32).toInt32) &&& (1 : Int32)))])) (fun _ k => XS.iand Xj.here hx rfl (hb hby at_69) rfl k) ?_
    by_cases hc70 : (((p2.toUInt32 >>> ((5 : Int32) &&& 31).toUInt32).toInt32) &&& (1 : Int32)) = (0 : Int32)
    · refine own_go (B := Tj.setTop (mkF m 81 #[.val (.int p0), .val (.int p1), .val (.int p2), .val (.int v3), .val (.int sl), .val (.int l2), .val (.int v41), .val (.int v52), .val (.int v63), .unset, .unset, .unset, .unset, .unset, .unset, .unset, .unset, .unset, .unset, .unset, .unset] [])) (fun _ k => XS.ifYes Xj.here hx rfl (pc0 := 70) (pc' := 81) rfl (hb hby at_70) rfl ((if0 _ _).trans (teq hc70).1) (by decide) (by decide) k) ?_
      refine own_go (B := Tj.setTop (mkF m 82 #[.val (.int p0), .val (.int p1), .val (.int p2), .val (.int v3), .val (.int sl), .val (.int l2), .val (.int v41), .val (.int v52), .val (.int v63), .unset, .unset, .unset, .unset, .unset, .unset, .unset, .unset, .unset, .unset, .unset, .unset] [(.int (0 : Int32))])) (fun _ k => XS.iconst Xj.here hx rfl (hb hby at_81) k) ?_
      refine own_go (B := Tj.setTop (mkF m 84 #[.val (.int p0), .val (.int p1), .val (.int p2), .val (.int v3), .val (.int sl), .val (.int l2), .val (.int v41), .val (.int v52), .val (.int v63), .val (.int (0 : Int32)), .unset, .unset, .unset, .unset, .unset, .unset, .unset, .unset, .unset, .unset, .unset] [])) (fun _ k => XS.istore Xj.here hx rfl (hb hby at_82) rfl (l' := #[.val (.int p0), .val (.int p1), .val (.int p2), .val (.int v3), .val (.int sl), .val (.int l2), .val (.int v41), .val (.int v52), .val (.int v63), .val (.int (0 : Int32)), .unset, .unset, .unset, .unset, .unset, .unset, .unset, .unset, .unset, .unset, .unset]) rfl k) ?_
      exact jn84 Tj _ Xj Nj35 ej (0 : Int32) own_rg0
    · refine own_go (B := Tj.setTop (mkF m 73 #[.val (.int p0), .val (.int p1), .val (.int p2), .val (.int v3), .val (.int sl), .val (.int l2), .val (.int v41), .val (.int v52), .val (.int v63), .unset, .unset, .unset, .unset, .unset, .unset, .unset, .unset, .unset, .unset, .unset, .unset] [])) (fun _ k => XS.ifNo Xj.here hx rfl (hb hby at_70) rfl ((if0 _ _).trans (feq hc70).1) k) ?_
      refine own_go (B := Tj.setTop (mkF m 74 #[.val (.int p0), .val (.int p1), .val (.int p2), .val (.int v3), .val (.int sl), .val (.int l2), .val (.int v41), .val (.int v52), .val (.int v63), .unset, .unset, .unset, .unset, .unset, .unset, .unset, .unset, .unset, .unset, .unset, .unset] [(.int p1)])) (fun _ k => XS.iloadN Xj.here hx rfl (hb hby at_73) rfl k) ?_
      refine own_go (B := Tj.setTop (mkF m 77 #[.val (.int p0), .val (.int p1), .val (.int p2), .val (.int v3), .val (.int sl), .val (.int l2), .val (.int v41), .val (.int v52), .val (.int v63), .unset, .unset, .unset, .unset, .unset, .unset, .unset, .unset, .unset, .unset, .unset, .unset] [(.int (255 : Int32)), (.int p1)])) (fun _ k => XS.sipush Xj.here hx rfl (hb hby at_74) k) ?_
      refine own_go (B := Tj.setTop (mkF m 78 #[.val (.int p0), .val (.int p1), .val (.int p2), .val (.int v3), .val (.int sl), .val (.int l2), .val (.int v41), .val (.int v52), .val (.int v63), .unset, .unset, .unset, .unset, .unset, .unset, .unset, .unset, .unset, .unset, .unset, .unset] [(.int (p1 &&& (255 : Int32)))])) (fun _ k => XS.iand Xj.here hx rfl (hb hby at_77) rfl k) ?_
      refine own_go (B := Tj.setTop (mkF m 82 #[.val (.int p0), .val (.int p1), .val (.int p2), .val (.int v3), .val (.int sl), .val (.int l2), .val (.int v41), .val (.int v52), .val (.int v63), .unset, .unset, .unset, .unset, .unset, .unset, .unset, .unset, .unset, .unset, .unset, .unset] [(.int (p1 &&& (255 : Int32)))])) (fun _ k => XS.goto Xj.here hx rfl (pc0 := 78) (pc' := 82) rfl (hb hby at_78) (by decide) (by decide) k) ?_
      generalize hv82 : (p1 &&& (255 : Int32)) = v82
      refine own_go (B := Tj.setTop (mkF m 84 #[.val (.int p0), .val (.int p1), .val (.int p2), .val (.int v3), .val (.int sl), .val (.int l2), .val (.int v41), .val (.int v52), .val (.int v63), .val (.int v82), .unset, .unset, .unset, .unset, .unset, .unset, .unset, .unset, .unset, .unset, .unset] [])) (fun _ k => XS.istore Xj.here hx rfl (hb hby at_82) rfl (l' := #[.val (.int p0), .val (.int p1), .val (.int p2), .val (.int v3), .val (.int sl), .val (.int l2), .val (.int v41), .val (.int v52), .val (.int v63), .val (.int v82), .unset, .unset, .unset, .unset, .unset, .unset, .unset, .unset, .unset, .unset, .unset]) rfl k) ?_
      exact jn84 Tj _ Xj Nj35 ej v82 (hv82 ▸ own_m255 _)
  refine own_go (B := s₁.setTop (mkF m 5 #[.val (.int p0), .val (.int p1), .val (.int p2), .val (.int v3), .unset, .unset, .unset, .unset, .unset, .unset, .unset, .unset, .unset, .unset, .unset, .unset, .unset, .unset, .unset, .unset, .unset] [(.int p2)])) (fun _ k => XS.iloadN X0.here hx rfl (hb hby at_4) rfl k) ?_
  refine own_go (B := s₁.setTop (mkF m 6 #[.val (.int p0), .val (.int p1), .val (.int p2), .val (.int v3), .unset, .unset, .unset, .unset, .unset, .unset, .unset, .unset, .unset, .unset, .unset, .unset, .unset, .unset, .unset, .unset, .unset] [(.int (2 : Int32)), (.int p2)])) (fun _ k => XS.iconst X0.here hx rfl (hb hby at_5) k) ?_
  refine own_go (B := s₁.setTop (mkF m 7 #[.val (.int p0), .val (.int p1), .val (.int p2), .val (.int v3), .unset, .unset, .unset, .unset, .unset, .unset, .unset, .unset, .unset, .unset, .unset, .unset, .unset, .unset, .unset, .unset, .unset] [(.int ((p2.toUInt32 >>> ((2 : Int32) &&& 31).toUInt32).toInt32))])) (fun _ k => XS.iushr X0.here hx rfl (hb hby at_6) rfl k) ?_
  refine own_go (B := s₁.setTop (mkF m 8 #[.val (.int p0), .val (.int p1), .val (.int p2), .val (.int v3), .unset, .unset, .unset, .unset, .unset, .unset, .unset, .unset, .unset, .unset, .unset, .unset, .unset, .unset, .unset, .unset, .unset] [(.int (1 : Int32)), (.int ((p2.toUInt32 >>> ((2 : Int32) &&& 31).toUInt32).toInt32))])) (fun _ k => XS.iconst X0.here hx rfl (hb hby at_7) k) ?_
  refine own_go (B := s₁.setTop (mkF m 9 #[.val (.int p0), .val (.int p1), .val (.int p2), .val (.int v3), .unset, .unset, .unset, .unset, .unset, .unset, .unset, .unset, .unset, .unset, .unset, .unset, .unset, .unset, .unset, .unset, .unset] [(.int (((p2.toUInt32 >>> ((2 : Int32) &&& 31).toUInt32).toInt32) &&& (1 : Int32)))])) (fun _ k => XS.iand X0.here hx rfl (hb hby at_8) rfl k) ?_
  by_cases hc9 : (((p2.toUInt32 >>> ((2 : Int32) &&& 31).toUInt32).toInt32) &&& (1 : Int32)) = (0 : Int32)
  · refine own_go (B := s₁.setTop (mkF m 16 #[.val (.int p0), .val (.int p1), .val (.int p2), .val (.int v3), .unset, .unset, .unset, .unset, .unset, .unset, .unset, .unset, .unset, .unset, .unset, .unset, .unset, .unset, .unset, .unset, .unset] [])) (fun _ k => XS.ifYes X0.here hx rfl (pc0 := 9) (pc' := 16) rfl (hb hby at_9) rfl ((if0 _ _).trans (teq hc9).1) (by decide) (by decide) k) ?_
    refine own_go (B := s₁.setTop (mkF m 17 #[.val (.int p0), .val (.int p1), .val (.int p2), .val (.int v3), .unset, .unset, .unset, .unset, .unset, .unset, .unset, .unset, .unset, .unset, .unset, .unset, .unset, .unset, .unset, .unset, .unset] [(.int (0 : Int32))])) (fun _ k => XS.iconst X0.here hx rfl (hb hby at_16) k) ?_
    refine own_go (B := s₁.setTop (mkF m 19 #[.val (.int p0), .val (.int p1), .val (.int p2), .val (.int v3), .val (.int (0 : Int32)), .unset, .unset, .unset, .unset, .unset, .unset, .unset, .unset, .unset, .unset, .unset, .unset, .unset, .unset, .unset, .unset] [])) (fun _ k => XS.istore X0.here hx rfl (hb hby at_17) rfl (l' := #[.val (.int p0), .val (.int p1), .val (.int p2), .val (.int v3), .val (.int (0 : Int32)), .unset, .unset, .unset, .unset, .unset, .unset, .unset, .unset, .unset, .unset, .unset, .unset, .unset, .unset, .unset, .unset]) rfl k) ?_
    refine own_go (B := s₁.setTop (mkF m 21 #[.val (.int p0), .val (.int p1), .val (.int p2), .val (.int v3), .val (.int (0 : Int32)), .unset, .unset, .unset, .unset, .unset, .unset, .unset, .unset, .unset, .unset, .unset, .unset, .unset, .unset, .unset, .unset] [(.int (0 : Int32))])) (fun _ k => XS.iload X0.here hx rfl (hb hby at_19) rfl k) ?_
    refine own_go (B := s₁.setTop (mkF m 28 #[.val (.int p0), .val (.int p1), .val (.int p2), .val (.int v3), .val (.int (0 : Int32)), .unset, .unset, .unset, .unset, .unset, .unset, .unset, .unset, .unset, .unset, .unset, .unset, .unset, .unset, .unset, .unset] [])) (fun _ k => XS.ifYes X0.here hx rfl (pc0 := 21) (pc' := 28) rfl (hb hby at_21) rfl ((if0 _ _).trans (teq (by decide : (0 : Int32) = (0 : Int32))).1) (by decide) (by decide) k) ?_
    refine own_go (B := s₁.setTop (mkF m 29 #[.val (.int p0), .val (.int p1), .val (.int p2), .val (.int v3), .val (.int (0 : Int32)), .unset, .unset, .unset, .unset, .unset, .unset, .unset, .unset, .unset, .unset, .unset, .unset, .unset, .unset, .unset, .unset] [(.int p2)])) (fun _ k => XS.iloadN X0.here hx rfl (hb hby at_28) rfl k) ?_
    refine own_go (B := s₁.setTop (mkF m 30 #[.val (.int p0), .val (.int p1), .val (.int p2), .val (.int v3), .val (.int (0 : Int32)), .unset, .unset, .unset, .unset, .unset, .unset, .unset, .unset, .unset, .unset, .unset, .unset, .unset, .unset, .unset, .unset] [(.int (3 : Int32)), (.int p2)])) (fun _ k => XS.iconst X0.here hx rfl (hb hby at_29) k) ?_
    refine own_go (B := s₁.setTop (mkF m 31 #[.val (.int p0), .val (.int p1), .val (.int p2), .val (.int v3), .val (.int (0 : Int32)), .unset, .unset, .unset, .unset, .unset, .unset, .unset, .unset, .unset, .unset, .unset, .unset, .unset, .unset, .unset, .unset] [(.int ((p2.toUInt32 >>> ((3 : Int32) &&& 31).toUInt32).toInt32))])) (fun _ k => XS.iushr X0.here hx rfl (hb hby at_30) rfl k) ?_
    refine own_go (B := s₁.setTop (mkF m 32 #[.val (.int p0), .val (.int p1), .val (.int p2), .val (.int v3), .val (.int (0 : Int32)), .unset, .unset, .unset, .unset, .unset, .unset, .unset, .unset, .unset, .unset, .unset, .unset, .unset, .unset, .unset, .unset] [(.int (3 : Int32)), (.int ((p2.toUInt32 >>> ((3 : Int32) &&& 31).toUInt32).toInt32))])) (fun _ k => XS.iconst X0.here hx rfl (hb hby at_31) k) ?_
    refine own_go (B := s₁.setTop (mkF m 33 #[.val (.int p0), .val (.int p1), .val (.int p2), .val (.int v3), .val (.int (0 : Int32)), .unset, .unset, .unset, .unset, .unset, .unset, .unset, .unset, .unset, .unset, .unset, .unset, .unset, .unset, .unset, .unset] [(.int (((p2.toUInt32 >>> ((3 : Int32) &&& 31).toUInt32).toInt32) &&& (3 : Int32)))])) (fun _ k => XS.iand X0.here hx rfl (hb hby at_32) rfl k) ?_
    generalize hv33 : (((p2.toUInt32 >>> ((3 : Int32) &&& 31).toUInt32).toInt32) &&& (3 : Int32)) = v33
    refine own_go (B := s₁.setTop (mkF m 35 #[.val (.int p0), .val (.int p1), .val (.int p2), .val (.int v3), .val (.int (0 : Int32)), .val (.int v33), .unset, .unset, .unset, .unset, .unset, .unset, .unset, .unset, .unset, .unset, .unset, .unset, .unset, .unset, .unset] [])) (fun _ k => XS.istore X0.here hx rfl (hb hby at_33) rfl (l' := #[.val (.int p0), .val (.int p1), .val (.int p2), .val (.int v3), .val (.int (0 : Int32)), .val (.int v33), .unset, .unset, .unset, .unset, .unset, .unset, .unset, .unset, .unset, .unset, .unset, .unset, .unset, .unset, .unset]) rfl k) ?_
    exact jn35 s₁ _ X0 N0 e0 (0 : Int32) v33 (hv33 ▸ own_r4m _)
  · refine own_go (B := s₁.setTop (mkF m 12 #[.val (.int p0), .val (.int p1), .val (.int p2), .val (.int v3), .unset, .unset, .unset, .unset, .unset, .unset, .unset, .unset, .unset, .unset, .unset, .unset, .unset, .unset, .unset, .unset, .unset] [])) (fun _ k => XS.ifNo X0.here hx rfl (hb hby at_9) rfl ((if0 _ _).trans (feq hc9).1) k) ?_
    refine own_go (B := s₁.setTop (mkF m 13 #[.val (.int p0), .val (.int p1), .val (.int p2), .val (.int v3), .unset, .unset, .unset, .unset, .unset, .unset, .unset, .unset, .unset, .unset, .unset, .unset, .unset, .unset, .unset, .unset, .unset] [(.int (1 : Int32))])) (fun _ k => XS.iconst X0.here hx rfl (hb hby at_12) k) ?_
    refine own_go (B := s₁.setTop (mkF m 17 #[.val (.int p0), .val (.int p1), .val (.int p2), .val (.int v3), .unset, .unset, .unset, .unset, .unset, .unset, .unset, .unset, .unset, .unset, .unset, .unset, .unset, .unset, .unset, .unset, .unset] [(.int (1 : Int32))])) (fun _ k => XS.goto X0.here hx rfl (pc0 := 13) (pc' := 17) rfl (hb hby at_13) (by decide) (by decide) k) ?_
    refine own_go (B := s₁.setTop (mkF m 19 #[.val (.int p0), .val (.int p1), .val (.int p2), .val (.int v3), .val (.int (1 : Int32)), .unset, .unset, .unset, .unset, .unset, .unset, .unset, .unset, .unset, .unset, .unset, .unset, .unset, .unset, .unset, .unset] [])) (fun _ k => XS.istore X0.here hx rfl (hb hby at_17) rfl (l' := #[.val (.int p0), .val (.int p1), .val (.int p2), .val (.int v3), .val (.int (1 : Int32)), .unset, .unset, .unset, .unset, .unset, .unset, .unset, .unset, .unset, .unset, .unset, .unset, .unset, .unset, .unset, .unset]) rfl k) ?_
    refine own_go (B := s₁.setTop (mkF m 21 #[.val (.int p0), .val (.int p1), .val (.int p2), .val (.int v3), .val (.int (1 : Int32)), .unset, .unset, .unset, .unset, .unset, .unset, .unset, .unset, .unset, .unset, .unset, .unset, .unset, .unset, .unset, .unset] [(.int (1 : Int32))])) (fun _ k => XS.iload X0.here hx rfl (hb hby at_19) rfl k) ?_
    refine own_go (B := s₁.setTop (mkF m 24 #[.val (.int p0), .val (.int p1), .val (.int p2), .val (.int v3), .val (.int (1 : Int32)), .unset, .unset, .unset, .unset, .unset, .unset, .unset, .unset, .unset, .unset, .unset, .unset, .unset, .unset, .unset, .unset] [])) (fun _ k => XS.ifNo X0.here hx rfl (hb hby at_21) rfl ((if0 _ _).trans (feq (by decide : ¬ ((1 : Int32) = (0 : Int32)))).1) k) ?_
    refine own_go (B := s₁.setTop (mkF m 25 #[.val (.int p0), .val (.int p1), .val (.int p2), .val (.int v3), .val (.int (1 : Int32)), .unset, .unset, .unset, .unset, .unset, .unset, .unset, .unset, .unset, .unset, .unset, .unset, .unset, .unset, .unset, .unset] [(.int v3)])) (fun _ k => XS.iloadN X0.here hx rfl (hb hby at_24) rfl k) ?_
    refine own_go (B := s₁.setTop (mkF m 33 #[.val (.int p0), .val (.int p1), .val (.int p2), .val (.int v3), .val (.int (1 : Int32)), .unset, .unset, .unset, .unset, .unset, .unset, .unset, .unset, .unset, .unset, .unset, .unset, .unset, .unset, .unset, .unset] [(.int v3)])) (fun _ k => XS.goto X0.here hx rfl (pc0 := 25) (pc' := 33) rfl (hb hby at_25) (by decide) (by decide) k) ?_
    refine own_go (B := s₁.setTop (mkF m 35 #[.val (.int p0), .val (.int p1), .val (.int p2), .val (.int v3), .val (.int (1 : Int32)), .val (.int v3), .unset, .unset, .unset, .unset, .unset, .unset, .unset, .unset, .unset, .unset, .unset, .unset, .unset, .unset, .unset] [])) (fun _ k => XS.istore X0.here hx rfl (hb hby at_33) rfl (l' := #[.val (.int p0), .val (.int p1), .val (.int p2), .val (.int v3), .val (.int (1 : Int32)), .val (.int v3), .unset, .unset, .unset, .unset, .unset, .unset, .unset, .unset, .unset, .unset, .unset, .unset, .unset, .unset, .unset]) rfl k) ?_
    exact jn35 s₁ _ X0 N0 e0 (1 : Int32) v3 (hv3 ▸ own_r4m p2)
set_option maxRecDepth 65536 in
set_option maxHeartbeats 40000000 in
theorem comes_1 {Post : Tables → Env → Array Value → State → Outcome → State → Prop} (hpost : ∀ tb e args s v u, (limb_1_1.after args s (.returned v) u = true ∧ limb_1_2.after args s (.returned v) u = true ∧ True) → ReturnedEndW s (.returned v) u (Jvm.fieldLocs frame_1_writes args s ++ Jvm.arrayLocs frame_1_arrays args s ++ Jvm.staticLocs frame_1_statics s) 32 1152 → Post tb e args s (.returned v) u) :
    ArmFor flags0 classFile x code maxLocals ret World_1 tables_1 room_1 Calls_1 rest_1 Pre_1 Post := by
  intro l hfl _ _ p e ha hc hk s m args below hf hA hF happ hP
  obtain ⟨hcalls, hrest, hpre⟩ := hP
  obtain ⟨-, -, -, hnamed, -, -, -, hat⟩ := (Spec.applies_iff hf).mp happ
  obtain ⟨hg, hn⟩ := and_e (Cond.before_iff.mp (show (Jvm.Cond.and given_1 narrow_1).before args s = true from hpre))
  obtain ⟨hcount, hg1⟩ := and_e hg
  obtain ⟨ga0, hg1'⟩ := and_e hg1
  obtain ⟨ga1, hg1''⟩ := and_e hg1'
  obtain ⟨w0, w1, w2, rfl⟩ : ∃ w0 w1 w2 : Value, args = #[w0, w1, w2] := by
    have hs : args.size = 3 := by simpa [Cond.value, given_1] using hcount
    obtain ⟨L⟩ := args
    match L, hs with
    | [w0, w1, w2], _ => exact ⟨w0, w1, w2, rfl⟩
  have hw := fun d (hd : d ∈ tables_1) => atoms_spec (ws := Jvm.Cond.code x code maxLocals ret :: tables_1) hat d (List.mem_cons_of_mem _ hd)
  have hfit : Fit s := fun {y c} hc i hi => by
    obtain ⟨ha, rfl⟩ := Array.getElem?_eq_some_iff.mp hc
    have q := List.all_eq_true.mp ((Array.all_eq_true_iff_forall_mem.mp hF) _ (Array.getElem_mem ha)) i (List.mem_range.mpr hi)
    simpa [Array.getElem?_eq_getElem hi] using q
  obtain ⟨hsets, hown0⟩ := atoms_of _ (rest_1_c_eq ▸ (show rest_1_c.before _ s = true from hrest))
  have hr0 := Cond.before_iff.mp hown0
  obtain ⟨i0, ei0⟩ := is_v ga0
  obtain rfl : w0 = (.int i0) := Option.some.inj ei0
  obtain ⟨i1, ei1⟩ := is_v ga1
  obtain rfl : w1 = (.int i1) := Option.some.inj ei1
  obtain ⟨i2, ei2⟩ := is_v hg1''
  obtain rfl : w2 = (.int i2) := Option.some.inj ei2
  obtain ⟨zC, ev_zC⟩ := is_v (Cond.before_iff.mp (hsets _ (List.mem_of_getElem? (i := 1) rfl)))
  have S_String_COMPACT_STRINGS := Sta.start ev_zC (Or.inl (hsets _ (List.mem_of_getElem? (i := 0) rfl)))
  have hzC := gotF (Cond.eq_ints ev_zC rfl) (not_v (Cond.before_iff.mp (hsets _ (List.mem_of_getElem? (i := 2) rfl))))
  obtain ⟨fm, ev_fm, hfm⟩ := isR_v (Cond.before_iff.mp (hsets _ (List.mem_of_getElem? (i := 8) rfl)))
  have S_Preconditions_SIOOBE_FORMATTER := Sta.start ev_fm (Or.inl (hsets _ (List.mem_of_getElem? (i := 7) rfl)))
  have CHs : CHv s own_EL s.vm s.heap := CHv.start (own_EW hw) (fun p hp => hcalls.1 p hp) (hsets _ (List.mem_of_getElem? (i := 2) rfl)) (own_wS hw _ (by decide)) (own_wS hw _ (by decide))
  obtain ⟨n, o, h1, h2, h3, _, L, rfl, ⟨rfl, N⟩, -, hq⟩ := rm0 l s _ hw tables_1 zC fm ⟨S_String_COMPACT_STRINGS, hzC, S_Preconditions_SIOOBE_FORMATTER, hfm, trivial⟩ i0 i1 i2 s.heap s.heap.size (Nat.le_refl _) (Old.start s)  p e ha hc hk s m _ below hf ((Spec.applies_iff_loose hf).mp happ).1 ⟨rfl, State.Warmed39.refl s, rfl, CHs, all0⟩ trivial
  refine ⟨n, _, h1, h2, h3, hpost _ _ _ _ _ _ ⟨Cond.after_iff.mpr rfl, Cond.after_iff.mpr (eq_i res_at (Term.int_eval (1)) rfl), trivial⟩ ⟨hq.1, hq.2.1, hq.2.2.1, (hq.2.2.2.sift fun y hy => Or.inr (N y hy)).mono (by decide) (by decide)⟩⟩
theorem main_1_1 : Claimed_1_1 := comes_1 fun _ _ _ _ _ _ h hF => ⟨h.1, hF⟩
theorem main_1_2 : Claimed_1_2 := comes_1 fun _ _ _ _ _ _ h hF => ⟨h.2.1, hF⟩
end Jvm.Pilot.@@N@@
namespace Jvm.Pilot.@@N@@
open Jvm Jvm.ClassFile Sem Op Lib Jvm.Free Jvm.Stand Jvm.Pilot.@@N@@.Jvm.D
/-! MADE BY PROGRAM (witnessworld.py) out of the Statement's table words and the real class files: 22 classes; the members and pool entries that the words name. The judged class is class 1, her method 2. -/
namespace start1
open Jvm.ClassFile
def u (s : String) : CpInfo := .utf8 (stringToUtf16 s)
/-- a pool by its gaps: so many unusable entries, then the entry; so many at the end -/
def gap : Nat → List CpInfo → List CpInfo
  | 0, r => r
  | n + 1, r => .unusable :: gap n r
def poolList (es : List (Nat × CpInfo)) (last : Nat) : List CpInfo := es.foldr (fun e r => gap e.1 (e.2 :: r)) (gap last [])
def pool (es : List (Nat × CpInfo)) (last : Nat) : Array CpInfo := ⟨poolList es last⟩
def fileOf (pool : Array CpInfo) (this : Nat) (attrs : Array Attribute := #[]) (ms : Array MethodInfo := #[]) (fl : Nat := 33) (sup : Nat := 0) (ifs : Array Nat := #[]) (fds : Array FieldInfo := #[]) : ClassFile where
  minorVersion := 0
  majorVersion := 65
  constantPool := pool
  accessFlags := fl
  thisClass := this
  superClass := sup
  interfaces := ifs
  fields := fds
  methods := ms
  attributes := attrs
def plain (name : String) (sup : Option ClassId) : Class where
  name := name
  kind := .ordinary
  loader := none
  accessFlags := 33
  super := sup
  interfaces := #[]
  cf := none
  fields := #[]
  methods := #[]
  instanceTypes := #[]
  staticTypes := #[]
  resolved := #[]
  callSites := []
  init := .initialized
  statics := none
  mirror := none

def pool0 : Array CpInfo := pool [(5, u "<init>"), (0, u "()V"), (1, .class_ 10), (1, u "java/lang/Object")] 113

def k0c0 : Code := { maxStack := 0, maxLocals := 1, code := object_method_1_code, exceptionTable := #[], attributes := #[] }
def k0m0 : Method := { name := "<init>", desc := "()V", sig := { parameters := [], returnType := none }, accessFlags := 1, code := some k0c0 }
/-- java/lang/Object -/
def k0 : Class := { plain "java/lang/Object" none with
  accessFlags := 33
  interfaces := #[]
  cf := some (fileOf pool0 8 #[] #[{ accessFlags := 1, nameIndex := 5, descriptorIndex := 6, attributes := #[] }] 33 0 #[] #[])
  fields := #[]
  methods := #[k0m0]
  instanceTypes := #[]
  staticTypes := #[]
  resolved := Array.replicate 124 none
  statics := none }

def pool1 : Array CpInfo := pool [(2, .class_ 4), (1, u "java/lang/Object"), (0, u "<init>"), (0, u "()V"), (0, .class_ 8), (0, u "java/lang/String"), (0, .methodref 7 10), (0, .nameAndType 5 11), (0, u "([C)V"), (0, .methodref 13 14), (0, .class_ 15), (0, .nameAndType 16 17), (0, u "com/example/facts_from_rules/factsfromrules/VariableEqualsPinLaw"), (0, u "mk"), (0, u "(ICCC)Ljava/lang/String;"), (0, .class_ 19), (0, u "com/example/facts_from_rules/factsfromrules/Variable"), (0, .methodref 18 21), (0, .nameAndType 5 22), (0, u "(Ljava/lang/String;)V"), (0, .methodref 18 24), (0, .nameAndType 25 26), (0, u "equals"), (0, u "(Ljava/lang/Object;)Z"), (0, .class_ 28), (0, u "com/example/facts_from_rules/factsfromrules/Constant"), (0, .methodref 27 30), (0, .nameAndType 5 31), (0, u "(Ljava/lang/Object;)V"), (3, u "law"), (0, u "(III)Z")] 2

def k1m0 : Method := { name := "<init>", desc := "()V", sig := { parameters := [], returnType := none }, accessFlags := 1, code := none }
def k1c1 : Code := { maxStack := 6, maxLocals := 4, code := method_2_code, exceptionTable := #[], attributes := #[] }
def k1m1 : Method := { name := "mk", desc := "(ICCC)Ljava/lang/String;", sig := { parameters := [.int, .char, .char, .char], returnType := some (.object "java/lang/String") }, accessFlags := 10, code := some k1c1 }
def k1c2 : Code := { maxStack := 4, maxLocals := 21, code := code, exceptionTable := #[], attributes := #[] }
def k1m2 : Method := { name := "law", desc := "(III)Z", sig := { parameters := [.int, .int, .int], returnType := some .boolean }, accessFlags := 9, code := some k1c2 }
/-- com/example/facts_from_rules/factsfromrules/VariableEqualsPinLaw -/
def k1 : Class := { plain "com/example/facts_from_rules/factsfromrules/VariableEqualsPinLaw" (some 0) with
  accessFlags := 49
  interfaces := #[]
  cf := some (fileOf pool1 13 #[] #[{ accessFlags := 1, nameIndex := 5, descriptorIndex := 6, attributes := #[] }, { accessFlags := 10, nameIndex := 16, descriptorIndex := 17, attributes := #[] }, { accessFlags := 9, nameIndex := 35, descriptorIndex := 36, attributes := #[] }] 49 2 #[] #[])
  fields := #[]
  methods := #[k1m0, k1m1, k1m2]
  instanceTypes := #[]
  staticTypes := #[]
  resolved := Array.replicate 39 none
  statics := none }

def pool2 : Array CpInfo := pool [(1, .class_ 2), (0, u "java/io/Serializable"), (0, .class_ 4), (0, u "java/lang/Object")] 2

/-- java/io/Serializable -/
def k2 : Class := { plain "java/io/Serializable" (some 0) with
  accessFlags := 1537
  interfaces := #[]
  cf := some (fileOf pool2 1 #[] #[] 1537 3 #[] #[])
  fields := #[]
  methods := #[]
  instanceTypes := #[]
  staticTypes := #[]
  resolved := Array.replicate 7 none
  statics := none }

def pool3 : Array CpInfo := pool [(1, .class_ 2), (0, u "java/lang/Comparable"), (0, .class_ 4), (0, u "java/lang/Object")] 7

/-- java/lang/Comparable -/
def k3 : Class := { plain "java/lang/Comparable" (some 0) with
  accessFlags := 1537
  interfaces := #[]
  cf := some (fileOf pool3 1 #[] #[] 1537 3 #[] #[])
  fields := #[]
  methods := #[]
  instanceTypes := #[]
  staticTypes := #[]
  resolved := Array.replicate 12 none
  statics := none }

def pool4 : Array CpInfo := pool [(2, .class_ 4), (1, u "java/lang/CharSequence"), (42, .class_ 48), (0, u "java/lang/CharSequence$1CodePointIterator"), (10, .class_ 60), (0, u "java/lang/CharSequence$1CharIterator"), (5, .class_ 67), (0, u "java/lang/Object")] 63

/-- java/lang/CharSequence -/
def k4 : Class := { plain "java/lang/CharSequence" (some 0) with
  accessFlags := 1537
  interfaces := #[]
  cf := some (fileOf pool4 2 #[.nestMembers #[47, 59]] #[] 1537 66 #[] #[])
  fields := #[]
  methods := #[]
  instanceTypes := #[]
  staticTypes := #[]
  resolved := Array.replicate 131 none
  statics := none }

def pool5 : Array CpInfo := pool [(1, .class_ 2), (0, u "java/lang/constant/Constable"), (0, .class_ 4), (0, u "java/lang/Object")] 6

/-- java/lang/constant/Constable -/
def k5 : Class := { plain "java/lang/constant/Constable" (some 0) with
  accessFlags := 1537
  interfaces := #[]
  cf := some (fileOf pool5 1 #[] #[] 1537 3 #[] #[])
  fields := #[]
  methods := #[]
  instanceTypes := #[]
  staticTypes := #[]
  resolved := Array.replicate 11 none
  statics := none }

def pool6 : Array CpInfo := pool [(1, .class_ 2), (0, u "java/lang/constant/ConstantDesc"), (0, .class_ 4), (0, u "java/lang/Object")] 32

/-- java/lang/constant/ConstantDesc -/
def k6 : Class := { plain "java/lang/constant/ConstantDesc" (some 0) with
  accessFlags := 1537
  interfaces := #[]
  cf := some (fileOf pool6 1 #[] #[] 1537 3 #[] #[])
  fields := #[]
  methods := #[]
  instanceTypes := #[]
  staticTypes := #[]
  resolved := Array.replicate 37 none
  statics := none }

def pool7 : Array CpInfo := pool [(1, .methodref 2 3), (0, .class_ 4), (0, .nameAndType 5 6), (0, u "java/lang/Object"), (0, u "<init>"), (0, u "()V"), (0, .string 8), (0, u ""), (0, .fieldref 10 11), (0, .class_ 12), (0, .nameAndType 13 14), (0, u "java/lang/String"), (0, u "value"), (0, u "[B"), (0, .fieldref 10 16), (0, .nameAndType 17 18), (0, u "coder"), (0, u "B"), (2, u "hash"), (0, u "I"), (2, u "hashIsZero"), (0, u "Z"), (0, .methodref 10 28), (0, .nameAndType 5 29), (0, u "([CIILjava/lang/Void;)V"), (8, .fieldref 10 39), (0, .nameAndType 40 26), (0, u "COMPACT_STRINGS"), (1, .class_ 44), (1, u "java/lang/StringUTF16"), (0, u "compress"), (1, .methodref 42 48), (0, .nameAndType 49 50), (0, u "coderFromArrayLen"), (0, u "([BI)B"), (56, .class_ 109), (1, u "java/lang/StringLatin1"), (67, .methodref 42 178), (0, .nameAndType 45 179), (0, u "([CII)[B"), (361, .methodref 107 542), (0, .nameAndType 543 544), (0, u "equals"), (0, u "([B[B)Z"), (28, u "(Ljava/lang/Object;)Z"), (1, .class_ 576), (0, u "java/lang/CharSequence"), (22, u "CASE_INSENSITIVE_ORDER"), (0, u "Ljava/util/Comparator;"), (409, u "([C)V"), (90, u "serialPersistentFields"), (0, u "[Ljava/io/ObjectStreamField;"), (0, .class_ 1104), (0, u "java/lang/String$CaseInsensitiveComparator"), (1, .class_ 1107), (0, u "java/io/Serializable"), (0, .class_ 1109), (0, u "java/lang/Comparable"), (0, .class_ 1111), (0, u "java/lang/constant/Constable"), (0, .class_ 1113), (0, u "java/lang/constant/ConstantDesc"), (2, u "serialVersionUID"), (0, u "J"), (3, u "REPL"), (0, u "C"), (2, u "LATIN1"), (1, u "UTF16")] 323

def k7m0 : Method := { name := "<init>", desc := "()V", sig := { parameters := [], returnType := none }, accessFlags := 1, code := none }
def k7c1 : Code := { maxStack := 5, maxLocals := 2, code := jdk_42_method_3_code, exceptionTable := #[], attributes := #[] }
def k7m1 : Method := { name := "<init>", desc := "([C)V", sig := { parameters := [(.array .char)], returnType := none }, accessFlags := 1, code := some k7c1 }
def k7c2 : Code := { maxStack := 2, maxLocals := 3, code := jdk_42_method_66_code, exceptionTable := #[], attributes := #[] }
def k7m2 : Method := { name := "equals", desc := "(Ljava/lang/Object;)Z", sig := { parameters := [(.object "java/lang/Object")], returnType := some .boolean }, accessFlags := 1, code := some k7c2 }
def k7c3 : Code := { maxStack := 4, maxLocals := 6, code := jdk_42_method_149_code, exceptionTable := #[], attributes := #[] }
def k7m3 : Method := { name := "<init>", desc := "([CIILjava/lang/Void;)V", sig := { parameters := [(.array .char), .int, .int, (.object "java/lang/Void")], returnType := none }, accessFlags := 2, code := some k7c3 }
/-- java/lang/String -/
def k7 : Class := { plain "java/lang/String" (some 0) with
  accessFlags := 49
  interfaces := #[2, 3, 4, 5, 6]
  cf := some (fileOf pool7 10 #[.nestMembers #[1103]] #[{ accessFlags := 1, nameIndex := 5, descriptorIndex := 6, attributes := #[] }, { accessFlags := 1, nameIndex := 5, descriptorIndex := 1010, attributes := #[] }, { accessFlags := 1, nameIndex := 543, descriptorIndex := 573, attributes := #[] }, { accessFlags := 2, nameIndex := 5, descriptorIndex := 29, attributes := #[] }] 49 2 #[1106, 1108, 575, 1110, 1112] #[{ accessFlags := 18, nameIndex := 13, descriptorIndex := 14, attributes := #[] }, { accessFlags := 18, nameIndex := 17, descriptorIndex := 18, attributes := #[] }, { accessFlags := 2, nameIndex := 21, descriptorIndex := 22, attributes := #[] }, { accessFlags := 2, nameIndex := 25, descriptorIndex := 26, attributes := #[] }, { accessFlags := 26, nameIndex := 1116, descriptorIndex := 1117, attributes := #[] }, { accessFlags := 24, nameIndex := 40, descriptorIndex := 26, attributes := #[] }, { accessFlags := 26, nameIndex := 1101, descriptorIndex := 1102, attributes := #[] }, { accessFlags := 26, nameIndex := 1121, descriptorIndex := 1122, attributes := #[] }, { accessFlags := 25, nameIndex := 599, descriptorIndex := 600, attributes := #[] }, { accessFlags := 24, nameIndex := 1125, descriptorIndex := 18, attributes := #[] }, { accessFlags := 24, nameIndex := 1127, descriptorIndex := 18, attributes := #[] }])
  fields := #[{ name := "value", type := (.array .byte), accessFlags := 18, slot := 0, constantValue := 0 }, { name := "coder", type := .byte, accessFlags := 18, slot := 1, constantValue := 0 }, { name := "hash", type := .int, accessFlags := 2, slot := 2, constantValue := 0 }, { name := "hashIsZero", type := .boolean, accessFlags := 2, slot := 3, constantValue := 0 }, { name := "serialVersionUID", type := .long, accessFlags := 26, slot := 0, constantValue := 0 }, { name := "COMPACT_STRINGS", type := .boolean, accessFlags := 24, slot := 1, constantValue := 0 }, { name := "serialPersistentFields", type := (.array (.object "java/io/ObjectStreamField")), accessFlags := 26, slot := 2, constantValue := 0 }, { name := "REPL", type := .char, accessFlags := 26, slot := 3, constantValue := 0 }, { name := "CASE_INSENSITIVE_ORDER", type := (.object "java/util/Comparator"), accessFlags := 25, slot := 4, constantValue := 0 }, { name := "LATIN1", type := .byte, accessFlags := 24, slot := 5, constantValue := 0 }, { name := "UTF16", type := .byte, accessFlags := 24, slot := 6, constantValue := 0 }]
  methods := #[k7m0, k7m1, k7m2, k7m3]
  instanceTypes := #[(.array .byte), .byte, .int, .boolean]
  staticTypes := #[.long, .boolean, (.array (.object "java/io/ObjectStreamField")), .char, (.object "java/util/Comparator"), .byte, .byte]
  resolved := Array.replicate 1451 none
  statics := some 0 }

def pool8 : Array CpInfo := pool [(6, .class_ 8), (1, u "java/lang/Object"), (0, u "<init>"), (0, u "()V"), (1, .class_ 14), (1, u "java/lang/StringUTF16"), (31, u "$assertionsDisabled"), (0, u "Z"), (13, u "HI_BYTE_SHIFT"), (0, u "I"), (2, u "LO_BYTE_SHIFT"), (49, .methodref 12 116), (0, .nameAndType 117 118), (0, u "compress"), (0, u "([CI[BII)I"), (3, u "([CII)[B"), (138, u "coderFromArrayLen"), (0, u "([BI)B"), (106, .class_ 371), (1, u "java/lang/StringUTF16$LinesSpliterator"), (58, u "MAX_LENGTH"), (196, .class_ 628), (0, u "java/lang/StringUTF16$CodePointsSpliterator"), (0, .class_ 630), (0, u "java/lang/StringUTF16$CharsSpliterator")] 4

def k8m0 : Method := { name := "<init>", desc := "()V", sig := { parameters := [], returnType := none }, accessFlags := 0, code := none }
def k8c1 : Code := { maxStack := 2, maxLocals := 2, code := jdk_52_method_15_code, exceptionTable := #[], attributes := #[] }
def k8m1 : Method := { name := "coderFromArrayLen", desc := "([BI)B", sig := { parameters := [(.array .byte), .int], returnType := some .byte }, accessFlags := 8, code := some k8c1 }
def k8c2 : Code := { maxStack := 5, maxLocals := 6, code := jdk_52_method_16_code, exceptionTable := #[], attributes := #[] }
def k8m2 : Method := { name := "compress", desc := "([CII)[B", sig := { parameters := [(.array .char), .int, .int], returnType := some (.array .byte) }, accessFlags := 9, code := some k8c2 }
def k8c3 : Code := { maxStack := 3, maxLocals := 7, code := jdk_52_method_21_code, exceptionTable := #[], attributes := #[] }
def k8m3 : Method := { name := "compress", desc := "([CI[BII)I", sig := { parameters := [(.array .char), .int, (.array .byte), .int, .int], returnType := some .int }, accessFlags := 9, code := some k8c3 }
/-- java/lang/StringUTF16 -/
def k8 : Class := { plain "java/lang/StringUTF16" (some 0) with
  accessFlags := 48
  interfaces := #[]
  cf := some (fileOf pool8 12 #[.nestMembers #[627, 629, 369]] #[{ accessFlags := 0, nameIndex := 9, descriptorIndex := 10, attributes := #[] }, { accessFlags := 8, nameIndex := 261, descriptorIndex := 262, attributes := #[] }, { accessFlags := 9, nameIndex := 117, descriptorIndex := 122, attributes := #[] }, { accessFlags := 9, nameIndex := 117, descriptorIndex := 118, attributes := #[] }] 48 6 #[] #[{ accessFlags := 26, nameIndex := 61, descriptorIndex := 62, attributes := #[] }, { accessFlags := 26, nameIndex := 65, descriptorIndex := 62, attributes := #[] }, { accessFlags := 24, nameIndex := 430, descriptorIndex := 62, attributes := #[] }, { accessFlags := 4120, nameIndex := 46, descriptorIndex := 47, attributes := #[] }])
  fields := #[{ name := "HI_BYTE_SHIFT", type := .int, accessFlags := 26, slot := 0, constantValue := 0 }, { name := "LO_BYTE_SHIFT", type := .int, accessFlags := 26, slot := 1, constantValue := 0 }, { name := "MAX_LENGTH", type := .int, accessFlags := 24, slot := 2, constantValue := 0 }, { name := "$assertionsDisabled", type := .boolean, accessFlags := 4120, slot := 3, constantValue := 0 }]
  methods := #[k8m0, k8m1, k8m2, k8m3]
  instanceTypes := #[]
  staticTypes := #[.int, .int, .int, .boolean]
  resolved := Array.replicate 635 none
  statics := none }

def pool9 : Array CpInfo := pool [(1, .class_ 2), (0, u "com/example/facts_from_rules/factsfromrules/Term"), (0, .class_ 4), (0, u "java/lang/Object")] 7

/-- com/example/facts_from_rules/factsfromrules/Term -/
def k9 : Class := { plain "com/example/facts_from_rules/factsfromrules/Term" (some 0) with
  accessFlags := 1536
  interfaces := #[]
  cf := some (fileOf pool9 1 #[] #[] 1536 3 #[] #[])
  fields := #[]
  methods := #[]
  instanceTypes := #[]
  staticTypes := #[]
  resolved := Array.replicate 12 none
  statics := none }

def pool10 : Array CpInfo := pool [(1, .methodref 2 3), (0, .class_ 4), (0, .nameAndType 5 6), (0, u "java/lang/Object"), (0, u "<init>"), (0, u "()V"), (0, .fieldref 8 9), (0, .class_ 10), (0, .nameAndType 11 12), (0, u "com/example/facts_from_rules/factsfromrules/Variable"), (0, u "name"), (0, u "Ljava/lang/String;"), (3, .class_ 18), (1, u "java/lang/String"), (2, .methodref 16 22), (0, .nameAndType 23 24), (0, u "equals"), (0, u "(Ljava/lang/Object;)Z"), (8, .class_ 34), (0, u "com/example/facts_from_rules/factsfromrules/Term"), (0, u "(Ljava/lang/String;)V")] 7

def k10c0 : Code := { maxStack := 2, maxLocals := 2, code := prog_34_method_1_code, exceptionTable := #[], attributes := #[] }
def k10m0 : Method := { name := "<init>", desc := "(Ljava/lang/String;)V", sig := { parameters := [(.object "java/lang/String")], returnType := none }, accessFlags := 0, code := some k10c0 }
def k10c1 : Code := { maxStack := 2, maxLocals := 2, code := prog_34_method_4_code, exceptionTable := #[], attributes := #[] }
def k10m1 : Method := { name := "equals", desc := "(Ljava/lang/Object;)Z", sig := { parameters := [(.object "java/lang/Object")], returnType := some .boolean }, accessFlags := 1, code := some k10c1 }
/-- com/example/facts_from_rules/factsfromrules/Variable -/
def k10 : Class := { plain "com/example/facts_from_rules/factsfromrules/Variable" (some 0) with
  accessFlags := 48
  interfaces := #[9]
  cf := some (fileOf pool10 8 #[] #[{ accessFlags := 0, nameIndex := 5, descriptorIndex := 35, attributes := #[] }, { accessFlags := 1, nameIndex := 23, descriptorIndex := 24, attributes := #[] }] 48 2 #[33] #[{ accessFlags := 18, nameIndex := 11, descriptorIndex := 12, attributes := #[] }])
  fields := #[{ name := "name", type := (.object "java/lang/String"), accessFlags := 18, slot := 0, constantValue := 0 }]
  methods := #[k10m0, k10m1]
  instanceTypes := #[(.object "java/lang/String")]
  staticTypes := #[]
  resolved := Array.replicate 43 none
  statics := none }

def pool11 : Array CpInfo := pool [(4, .class_ 6), (1, u "java/lang/Object"), (0, u "<init>"), (0, u "()V"), (5, .class_ 16), (1, u "java/lang/StringLatin1"), (104, u "$assertionsDisabled"), (0, u "Z"), (98, .class_ 223), (1, u "java/lang/StringLatin1$LinesSpliterator"), (57, u "equals"), (0, u "([B[B)Z"), (107, .class_ 391), (0, u "java/lang/StringLatin1$CharsSpliterator")] 3

def k11m0 : Method := { name := "<init>", desc := "()V", sig := { parameters := [], returnType := none }, accessFlags := 0, code := none }
def k11c1 : Code := { maxStack := 3, maxLocals := 3, code := jdk_43_method_13_code, exceptionTable := #[], attributes := #[] }
def k11m1 : Method := { name := "equals", desc := "([B[B)Z", sig := { parameters := [(.array .byte), (.array .byte)], returnType := some .boolean }, accessFlags := 9, code := some k11c1 }
/-- java/lang/StringLatin1 -/
def k11 : Class := { plain "java/lang/StringLatin1" (some 0) with
  accessFlags := 48
  interfaces := #[]
  cf := some (fileOf pool11 14 #[.nestMembers #[390, 221]] #[{ accessFlags := 0, nameIndex := 7, descriptorIndex := 8, attributes := #[] }, { accessFlags := 9, nameIndex := 281, descriptorIndex := 282, attributes := #[] }] 48 4 #[] #[{ accessFlags := 4120, nameIndex := 121, descriptorIndex := 122, attributes := #[] }])
  fields := #[{ name := "$assertionsDisabled", type := .boolean, accessFlags := 4120, slot := 0, constantValue := 0 }]
  methods := #[k11m0, k11m1]
  instanceTypes := #[]
  staticTypes := #[.boolean]
  resolved := Array.replicate 395 none
  statics := none }

def pool12 : Array CpInfo := pool [(1, .methodref 2 3), (0, .class_ 4), (0, .nameAndType 5 6), (0, u "java/lang/Object"), (0, u "<init>"), (0, u "()V"), (0, .fieldref 8 9), (0, .class_ 10), (0, .nameAndType 11 12), (0, u "com/example/facts_from_rules/factsfromrules/Constant"), (0, u "value"), (0, u "Ljava/lang/Object;"), (5, .class_ 19), (0, u "com/example/facts_from_rules/factsfromrules/Term"), (0, u "(Ljava/lang/Object;)V")] 7

def k12c0 : Code := { maxStack := 2, maxLocals := 2, code := prog_6_method_1_code, exceptionTable := #[], attributes := #[] }
def k12m0 : Method := { name := "<init>", desc := "(Ljava/lang/Object;)V", sig := { parameters := [(.object "java/lang/Object")], returnType := none }, accessFlags := 0, code := some k12c0 }
/-- com/example/facts_from_rules/factsfromrules/Constant -/
def k12 : Class := { plain "com/example/facts_from_rules/factsfromrules/Constant" (some 0) with
  accessFlags := 48
  interfaces := #[9]
  cf := some (fileOf pool12 8 #[] #[{ accessFlags := 0, nameIndex := 5, descriptorIndex := 20, attributes := #[] }] 48 2 #[18] #[{ accessFlags := 18, nameIndex := 11, descriptorIndex := 12, attributes := #[] }])
  fields := #[{ name := "value", type := (.object "java/lang/Object"), accessFlags := 18, slot := 0, constantValue := 0 }]
  methods := #[k12m0]
  instanceTypes := #[(.object "java/lang/Object")]
  staticTypes := #[]
  resolved := Array.replicate 28 none
  statics := none }

def pool13 : Array CpInfo := pool [(2, .class_ 4), (1, u "java/lang/Object"), (0, u "<init>"), (0, u "()V"), (17, .class_ 26), (1, u "jdk/internal/util/Preconditions"), (28, .class_ 56), (0, u "jdk/internal/util/Preconditions$4"), (57, .class_ 115), (0, u "jdk/internal/util/Preconditions$1"), (7, u "SIOOBE_FORMATTER"), (0, u "Ljava/util/function/BiFunction;"), (0, .class_ 126), (0, u "jdk/internal/util/Preconditions$2"), (3, u "AIOOBE_FORMATTER"), (0, .class_ 132), (0, u "jdk/internal/util/Preconditions$3"), (3, u "IOOBE_FORMATTER")] 57

def k13m0 : Method := { name := "<init>", desc := "()V", sig := { parameters := [], returnType := none }, accessFlags := 1, code := none }
/-- jdk/internal/util/Preconditions -/
def k13 : Class := { plain "jdk/internal/util/Preconditions" (some 0) with
  accessFlags := 33
  interfaces := #[]
  cf := some (fileOf pool13 24 #[.nestMembers #[55, 131, 125, 114]] #[{ accessFlags := 1, nameIndex := 5, descriptorIndex := 6, attributes := #[] }] 33 2 #[] #[{ accessFlags := 25, nameIndex := 123, descriptorIndex := 124, attributes := #[] }, { accessFlags := 25, nameIndex := 130, descriptorIndex := 124, attributes := #[] }, { accessFlags := 25, nameIndex := 136, descriptorIndex := 124, attributes := #[] }])
  fields := #[{ name := "SIOOBE_FORMATTER", type := (.object "java/util/function/BiFunction"), accessFlags := 25, slot := 0, constantValue := 0 }, { name := "AIOOBE_FORMATTER", type := (.object "java/util/function/BiFunction"), accessFlags := 25, slot := 1, constantValue := 0 }, { name := "IOOBE_FORMATTER", type := (.object "java/util/function/BiFunction"), accessFlags := 25, slot := 2, constantValue := 0 }]
  methods := #[k13m0]
  instanceTypes := #[]
  staticTypes := #[(.object "java/util/function/BiFunction"), (.object "java/util/function/BiFunction"), (.object "java/util/function/BiFunction")]
  resolved := Array.replicate 194 none
  statics := some 1 }

def pool14 : Array CpInfo := pool [(9, u "<init>"), (6, .class_ 18), (1, u "java/lang/Object"), (0, u "()V"), (1, .class_ 23), (1, u "jdk/internal/util/ArraysSupport"), (0, u "LOG2_ARRAY_LONG_INDEX_SCALE"), (0, u "I"), (2, u "U"), (0, u "Ljdk/internal/misc/Unsafe;"), (8, u "BIG_ENDIAN"), (0, u "Z"), (8, u "LOG2_BYTE_BIT_SIZE"), (4, u "LOG2_ARRAY_INT_INDEX_SCALE"), (54, u "JLA"), (0, u "Ljdk/internal/access/JavaLangAccess;"), (11, u "LOG2_ARRAY_BOOLEAN_INDEX_SCALE"), (9, u "LOG2_ARRAY_BYTE_INDEX_SCALE"), (5, u "LOG2_ARRAY_CHAR_INDEX_SCALE"), (5, u "LOG2_ARRAY_SHORT_INDEX_SCALE"), (18, u "LOG2_ARRAY_FLOAT_INDEX_SCALE"), (24, u "LOG2_ARRAY_DOUBLE_INDEX_SCALE"), (89, u "T_BOOLEAN"), (2, u "T_CHAR"), (1, u "T_FLOAT"), (1, u "T_DOUBLE"), (1, u "T_BYTE"), (1, u "T_SHORT"), (1, u "T_INT"), (1, u "T_LONG"), (1, u "SOFT_MAX_ARRAY_LENGTH")] 83

def k14m0 : Method := { name := "<init>", desc := "()V", sig := { parameters := [], returnType := none }, accessFlags := 2, code := none }
/-- jdk/internal/util/ArraysSupport -/
def k14 : Class := { plain "jdk/internal/util/ArraysSupport" (some 0) with
  accessFlags := 33
  interfaces := #[]
  cf := some (fileOf pool14 21 #[] #[{ accessFlags := 2, nameIndex := 9, descriptorIndex := 19, attributes := #[] }] 33 16 #[] #[{ accessFlags := 24, nameIndex := 28, descriptorIndex := 29, attributes := #[] }, { accessFlags := 26, nameIndex := 38, descriptorIndex := 39, attributes := #[] }, { accessFlags := 25, nameIndex := 121, descriptorIndex := 25, attributes := #[] }, { accessFlags := 25, nameIndex := 131, descriptorIndex := 25, attributes := #[] }, { accessFlags := 25, nameIndex := 137, descriptorIndex := 25, attributes := #[] }, { accessFlags := 25, nameIndex := 143, descriptorIndex := 25, attributes := #[] }, { accessFlags := 25, nameIndex := 53, descriptorIndex := 25, attributes := #[] }, { accessFlags := 25, nameIndex := 24, descriptorIndex := 25, attributes := #[] }, { accessFlags := 25, nameIndex := 162, descriptorIndex := 25, attributes := #[] }, { accessFlags := 25, nameIndex := 187, descriptorIndex := 25, attributes := #[] }, { accessFlags := 26, nameIndex := 48, descriptorIndex := 25, attributes := #[] }, { accessFlags := 25, nameIndex := 277, descriptorIndex := 25, attributes := #[] }, { accessFlags := 25, nameIndex := 280, descriptorIndex := 25, attributes := #[] }, { accessFlags := 25, nameIndex := 282, descriptorIndex := 25, attributes := #[] }, { accessFlags := 25, nameIndex := 284, descriptorIndex := 25, attributes := #[] }, { accessFlags := 25, nameIndex := 286, descriptorIndex := 25, attributes := #[] }, { accessFlags := 25, nameIndex := 288, descriptorIndex := 25, attributes := #[] }, { accessFlags := 25, nameIndex := 290, descriptorIndex := 25, attributes := #[] }, { accessFlags := 25, nameIndex := 292, descriptorIndex := 25, attributes := #[] }, { accessFlags := 26, nameIndex := 108, descriptorIndex := 109, attributes := #[] }, { accessFlags := 25, nameIndex := 294, descriptorIndex := 25, attributes := #[] }])
  fields := #[{ name := "U", type := (.object "jdk/internal/misc/Unsafe"), accessFlags := 24, slot := 0, constantValue := 0 }, { name := "BIG_ENDIAN", type := .boolean, accessFlags := 26, slot := 1, constantValue := 0 }, { name := "LOG2_ARRAY_BOOLEAN_INDEX_SCALE", type := .int, accessFlags := 25, slot := 2, constantValue := 0 }, { name := "LOG2_ARRAY_BYTE_INDEX_SCALE", type := .int, accessFlags := 25, slot := 3, constantValue := 0 }, { name := "LOG2_ARRAY_CHAR_INDEX_SCALE", type := .int, accessFlags := 25, slot := 4, constantValue := 0 }, { name := "LOG2_ARRAY_SHORT_INDEX_SCALE", type := .int, accessFlags := 25, slot := 5, constantValue := 0 }, { name := "LOG2_ARRAY_INT_INDEX_SCALE", type := .int, accessFlags := 25, slot := 6, constantValue := 0 }, { name := "LOG2_ARRAY_LONG_INDEX_SCALE", type := .int, accessFlags := 25, slot := 7, constantValue := 0 }, { name := "LOG2_ARRAY_FLOAT_INDEX_SCALE", type := .int, accessFlags := 25, slot := 8, constantValue := 0 }, { name := "LOG2_ARRAY_DOUBLE_INDEX_SCALE", type := .int, accessFlags := 25, slot := 9, constantValue := 0 }, { name := "LOG2_BYTE_BIT_SIZE", type := .int, accessFlags := 26, slot := 10, constantValue := 0 }, { name := "T_BOOLEAN", type := .int, accessFlags := 25, slot := 11, constantValue := 0 }, { name := "T_CHAR", type := .int, accessFlags := 25, slot := 12, constantValue := 0 }, { name := "T_FLOAT", type := .int, accessFlags := 25, slot := 13, constantValue := 0 }, { name := "T_DOUBLE", type := .int, accessFlags := 25, slot := 14, constantValue := 0 }, { name := "T_BYTE", type := .int, accessFlags := 25, slot := 15, constantValue := 0 }, { name := "T_SHORT", type := .int, accessFlags := 25, slot := 16, constantValue := 0 }, { name := "T_INT", type := .int, accessFlags := 25, slot := 17, constantValue := 0 }, { name := "T_LONG", type := .int, accessFlags := 25, slot := 18, constantValue := 0 }, { name := "JLA", type := (.object "jdk/internal/access/JavaLangAccess"), accessFlags := 26, slot := 19, constantValue := 0 }, { name := "SOFT_MAX_ARRAY_LENGTH", type := .int, accessFlags := 25, slot := 20, constantValue := 0 }]
  methods := #[k14m0]
  instanceTypes := #[]
  staticTypes := #[(.object "jdk/internal/misc/Unsafe"), .boolean, .int, .int, .int, .int, .int, .int, .int, .int, .int, .int, .int, .int, .int, .int, .int, .int, .int, (.object "jdk/internal/access/JavaLangAccess"), .int]
  resolved := Array.replicate 378 none
  statics := none }

def pool15 : Array CpInfo := pool [(1, u "java/lang/Cloneable"), (0, .class_ 1), (0, u "java/lang/Object"), (0, .class_ 3)] 3

/-- java/lang/Cloneable -/
def k15 : Class := { plain "java/lang/Cloneable" (some 0) with
  accessFlags := 1537
  interfaces := #[]
  cf := some (fileOf pool15 2 #[] #[] 1537 4 #[] #[])
  fields := #[]
  methods := #[]
  instanceTypes := #[]
  staticTypes := #[]
  resolved := Array.replicate 8 none
  statics := none }

/-- the primitive byte -/
def k16 : Class := { plain "byte" none with kind := .primitive 'B', accessFlags := 0x411 }
/-- [B -/
def k17 : Class := { plain "[B" (some 0) with kind := .array 16 .byte, interfaces := #[15, 2], accessFlags := 1041 }

/-- the primitive char -/
def k18 : Class := { plain "char" none with kind := .primitive 'C', accessFlags := 0x411 }
/-- [C -/
def k19 : Class := { plain "[C" (some 0) with kind := .array 18 .char, interfaces := #[15, 2], accessFlags := 1041 }

/-- the primitive int -/
def k20 : Class := { plain "int" none with kind := .primitive 'I', accessFlags := 0x411 }
/-- [I -/
def k21 : Class := { plain "[I" (some 0) with kind := .array 20 .int, interfaces := #[15, 2], accessFlags := 1041 }

def heap : Heap := #[{ cls := 7, slots := #[.long 0, .int 1, .null, .int 0, .null, .int 0, .int 0], vm := .statics 7 },
  { cls := 13, slots := #[.null, .null, .null], vm := .statics 13 }]
def classes : Array Class := #[k0, k1, k2, k3, k4, k5, k6, k7, k8, k9, k10, k11, k12, k13, k14, k15, k16, k17, k18, k19, k20, k21]
def interned : List (Array UInt16 × Addr) := []
def slotsUsed : Nat := 10
def theMethod : MethodId := ⟨1, 2⟩
def args0 : Array Value := #[.int 5, .int 6, .int 7]
def aboutOver (below : List Frame) : State where
  vm := { classes := classes, interned := interned.toArray }
  heap := heap
  slotsUsed := slotsUsed
  threads := #[{ frames := .invoking theMethod args0 :: below }]
def below0 : List Frame := [.native { method := ⟨0, 0⟩, args := #[] }]
def about1 : State := aboutOver below0
def p0 : Program := .bare "" "" ""
def e0 : Env := launch0.env 0 0 0
theorem w_frames : about1.frames = Frame.invoking theMethod args0 :: below0 := rfl
set_option maxRecDepth 65536 in
theorem w_args : argsFit about1.vm theMethod args0 = true := by decide +kernel
set_option maxRecDepth 65536 in
theorem w_heap : heapFits about1 = true := by decide +kernel
set_option maxRecDepth 65536 in
theorem w_runnable : about1.curStatus? = some .runnable := by decide +kernel
set_option maxRecDepth 65536 in
theorem w_alone : about1.alone = true := by decide +kernel
set_option maxRecDepth 65536 in
theorem w_named : about1.methodNamed? x = some theMethod := by decide +kernel
set_option maxRecDepth 65536 in
theorem w_hears : about1.hears theMethod below0 = true := by decide +kernel
set_option maxRecDepth 65536 in
theorem w_ripe : about1.ripe theMethod args0 below0 = true := by decide +kernel
theorem w_running : about1.status = .running := rfl
set_option maxRecDepth 65536 in
theorem w_room : about1.hasRoom e0.platform room_1 = true :=
  launch0.hasRoom_least _ room_1 (by decide +kernel) (by decide +kernel) (by decide +kernel) (by decide +kernel) (by decide +kernel) (by decide +kernel)
theorem allAtoms_all (ts : List Jvm.Cond) (a : Array Jvm.Value) (st : Jvm.State) : (allAtoms ts).before a st = ts.all (fun c => c.before a st) := by
  induction ts with
  | nil => rfl
  | cons c t ih =>
    show (Jvm.Cond.and c (allAtoms t)).before a st = _
    rw [Jvm.Cond.before_and, ih, List.all_cons]
def words1 : List Jvm.Cond := Jvm.Cond.code x code maxLocals ret :: tables_1
/-- a 'code' word, met by the world's own term for the bytes: nothing is compared byte by byte -/
theorem code_word {y : MethodName} {bytes : ByteArray} {mx : Nat} {rt : Option FieldType} {a : Array Value} {s : State} {m : MethodId} {meth : Method} {c : Code} (h1 : s.methodNamed? y = some m) (h2 : s.vm.method? m = some meth) (h3 : meth.code = some c) (h4 : c.code = bytes)
    (h5 : (c.maxLocals == mx && c.exceptionTable.isEmpty && decide (c.maxStack ≤ mostOperands) && decide (meth.sig.returnType = rt) && !meth.locks && decide (parseMethodDescriptor y.desc = some meth.sig)) = true) : (Jvm.Cond.code y bytes mx rt).before a s = true := by
  simp only [Bool.and_eq_true, beq_iff_eq, Bool.not_eq_true', decide_eq_true_eq] at h5
  obtain ⟨⟨⟨⟨⟨g1, g2⟩, g3⟩, g4⟩, g5⟩, g6⟩ := h5
  simp [Cond.before, Cond.holds, Cond.value, h1, h2, h3, h4, g1, g2, g3, g4, g5, g6]
def isCode : Jvm.Cond → Bool
  | .code _ _ _ _ => true
  | _ => false
theorem all_split {L : List Jvm.Cond} {P : Jvm.Cond → Bool} (h1 : L.all (fun c => isCode c || P c) = true) (h2 : ∀ c ∈ L.filter isCode, P c = true) : L.all P = true := by
  refine List.all_eq_true.mpr fun c hc => ?_
  have h := List.all_eq_true.mp h1 c hc
  rcases Bool.eq_false_or_eq_true (isCode c) with hi | hi
  · exact h2 c (List.mem_filter.mpr ⟨hc, hi⟩)
  · simpa [hi] using h
set_option maxRecDepth 65536 in
theorem w_c0 : (Jvm.Cond.code x code maxLocals ret).before args0 about1 = true := code_word (m := ⟨1, 2⟩) (meth := k1m2) (c := k1c2) (by decide +kernel) rfl rfl rfl (by decide +kernel)
set_option maxRecDepth 65536 in
theorem w_c1 : (Jvm.Cond.code ({ cls := "com/example/facts_from_rules/factsfromrules/VariableEqualsPinLaw", name := "mk", desc := "(ICCC)Ljava/lang/String;" } : Jvm.MethodName) method_2_code (4 : Nat) (Option.some (Jvm.ClassFile.FieldType.object "java/lang/String"))).before args0 about1 = true := code_word (m := ⟨1, 1⟩) (meth := k1m1) (c := k1c1) (by decide +kernel) rfl rfl rfl (by decide +kernel)
set_option maxRecDepth 65536 in
theorem w_c2 : (Jvm.Cond.code ({ cls := "java/lang/String", name := "<init>", desc := "([C)V" } : Jvm.MethodName) jdk_42_method_3_code (2 : Nat) (Option.none : Option Jvm.ClassFile.FieldType)).before args0 about1 = true := code_word (m := ⟨7, 1⟩) (meth := k7m1) (c := k7c1) (by decide +kernel) rfl rfl rfl (by decide +kernel)
set_option maxRecDepth 65536 in
theorem w_c3 : (Jvm.Cond.code ({ cls := "java/lang/String", name := "<init>", desc := "([CIILjava/lang/Void;)V" } : Jvm.MethodName) jdk_42_method_149_code (6 : Nat) (Option.none : Option Jvm.ClassFile.FieldType)).before args0 about1 = true := code_word (m := ⟨7, 3⟩) (meth := k7m3) (c := k7c3) (by decide +kernel) rfl rfl rfl (by decide +kernel)
set_option maxRecDepth 65536 in
theorem w_c4 : (Jvm.Cond.code ({ cls := "java/lang/Object", name := "<init>", desc := "()V" } : Jvm.MethodName) object_method_1_code (1 : Nat) (Option.none : Option Jvm.ClassFile.FieldType)).before args0 about1 = true := code_word (m := ⟨0, 0⟩) (meth := k0m0) (c := k0c0) (by decide +kernel) rfl rfl rfl (by decide +kernel)
set_option maxRecDepth 65536 in
theorem w_c5 : (Jvm.Cond.code ({ cls := "java/lang/StringUTF16", name := "compress", desc := "([CII)[B" } : Jvm.MethodName) jdk_52_method_16_code (6 : Nat) (Option.some (Jvm.ClassFile.FieldType.array Jvm.ClassFile.FieldType.byte))).before args0 about1 = true := code_word (m := ⟨8, 2⟩) (meth := k8m2) (c := k8c2) (by decide +kernel) rfl rfl rfl (by decide +kernel)
set_option maxRecDepth 65536 in
theorem w_c6 : (Jvm.Cond.code ({ cls := "java/lang/StringUTF16", name := "compress", desc := "([CI[BII)I" } : Jvm.MethodName) jdk_52_method_21_code (7 : Nat) (Option.some Jvm.ClassFile.FieldType.int)).before args0 about1 = true := code_word (m := ⟨8, 3⟩) (meth := k8m3) (c := k8c3) (by decide +kernel) rfl rfl rfl (by decide +kernel)
set_option maxRecDepth 65536 in
theorem w_c7 : (Jvm.Cond.code ({ cls := "java/lang/StringUTF16", name := "coderFromArrayLen", desc := "([BI)B" } : Jvm.MethodName) jdk_52_method_15_code (2 : Nat) (Option.some Jvm.ClassFile.FieldType.byte)).before args0 about1 = true := code_word (m := ⟨8, 1⟩) (meth := k8m1) (c := k8c1) (by decide +kernel) rfl rfl rfl (by decide +kernel)
set_option maxRecDepth 65536 in
theorem w_c8 : (Jvm.Cond.code ({ cls := "com/example/facts_from_rules/factsfromrules/Variable", name := "<init>", desc := "(Ljava/lang/String;)V" } : Jvm.MethodName) prog_34_method_1_code (2 : Nat) (Option.none : Option Jvm.ClassFile.FieldType)).before args0 about1 = true := code_word (m := ⟨10, 0⟩) (meth := k10m0) (c := k10c0) (by decide +kernel) rfl rfl rfl (by decide +kernel)
set_option maxRecDepth 65536 in
theorem w_c9 : (Jvm.Cond.code ({ cls := "com/example/facts_from_rules/factsfromrules/Variable", name := "equals", desc := "(Ljava/lang/Object;)Z" } : Jvm.MethodName) prog_34_method_4_code (2 : Nat) (Option.some Jvm.ClassFile.FieldType.boolean)).before args0 about1 = true := code_word (m := ⟨10, 1⟩) (meth := k10m1) (c := k10c1) (by decide +kernel) rfl rfl rfl (by decide +kernel)
set_option maxRecDepth 65536 in
theorem w_c10 : (Jvm.Cond.code ({ cls := "java/lang/String", name := "equals", desc := "(Ljava/lang/Object;)Z" } : Jvm.MethodName) jdk_42_method_66_code (3 : Nat) (Option.some Jvm.ClassFile.FieldType.boolean)).before args0 about1 = true := code_word (m := ⟨7, 2⟩) (meth := k7m2) (c := k7c2) (by decide +kernel) rfl rfl rfl (by decide +kernel)
set_option maxRecDepth 65536 in
theorem w_c11 : (Jvm.Cond.code ({ cls := "java/lang/StringLatin1", name := "equals", desc := "([B[B)Z" } : Jvm.MethodName) jdk_43_method_13_code (3 : Nat) (Option.some Jvm.ClassFile.FieldType.boolean)).before args0 about1 = true := code_word (m := ⟨11, 1⟩) (meth := k11m1) (c := k11c1) (by decide +kernel) rfl rfl rfl (by decide +kernel)
set_option maxRecDepth 65536 in
theorem w_c12 : (Jvm.Cond.code ({ cls := "com/example/facts_from_rules/factsfromrules/Constant", name := "<init>", desc := "(Ljava/lang/Object;)V" } : Jvm.MethodName) prog_6_method_1_code (2 : Nat) (Option.none : Option Jvm.ClassFile.FieldType)).before args0 about1 = true := code_word (m := ⟨12, 0⟩) (meth := k12m0) (c := k12c0) (by decide +kernel) rfl rfl rfl (by decide +kernel)
def codes1 : List Jvm.Cond := [Jvm.Cond.code x code maxLocals ret, Jvm.Cond.code ({ cls := "com/example/facts_from_rules/factsfromrules/VariableEqualsPinLaw", name := "mk", desc := "(ICCC)Ljava/lang/String;" } : Jvm.MethodName) method_2_code (4 : Nat) (Option.some (Jvm.ClassFile.FieldType.object "java/lang/String")), Jvm.Cond.code ({ cls := "java/lang/String", name := "<init>", desc := "([C)V" } : Jvm.MethodName) jdk_42_method_3_code (2 : Nat) (Option.none : Option Jvm.ClassFile.FieldType), Jvm.Cond.code ({ cls := "java/lang/String", name := "<init>", desc := "([CIILjava/lang/Void;)V" } : Jvm.MethodName) jdk_42_method_149_code (6 : Nat) (Option.none : Option Jvm.ClassFile.FieldType), Jvm.Cond.code ({ cls := "java/lang/Object", name := "<init>", desc := "()V" } : Jvm.MethodName) object_method_1_code (1 : Nat) (Option.none : Option Jvm.ClassFile.FieldType), Jvm.Cond.code ({ cls := "java/lang/StringUTF16", name := "compress", desc := "([CII)[B" } : Jvm.MethodName) jdk_52_method_16_code (6 : Nat) (Option.some (Jvm.ClassFile.FieldType.array Jvm.ClassFile.FieldType.byte)), Jvm.Cond.code ({ cls := "java/lang/StringUTF16", name := "compress", desc := "([CI[BII)I" } : Jvm.MethodName) jdk_52_method_21_code (7 : Nat) (Option.some Jvm.ClassFile.FieldType.int), Jvm.Cond.code ({ cls := "java/lang/StringUTF16", name := "coderFromArrayLen", desc := "([BI)B" } : Jvm.MethodName) jdk_52_method_15_code (2 : Nat) (Option.some Jvm.ClassFile.FieldType.byte), Jvm.Cond.code ({ cls := "com/example/facts_from_rules/factsfromrules/Variable", name := "<init>", desc := "(Ljava/lang/String;)V" } : Jvm.MethodName) prog_34_method_1_code (2 : Nat) (Option.none : Option Jvm.ClassFile.FieldType), Jvm.Cond.code ({ cls := "com/example/facts_from_rules/factsfromrules/Variable", name := "equals", desc := "(Ljava/lang/Object;)Z" } : Jvm.MethodName) prog_34_method_4_code (2 : Nat) (Option.some Jvm.ClassFile.FieldType.boolean), Jvm.Cond.code ({ cls := "java/lang/String", name := "equals", desc := "(Ljava/lang/Object;)Z" } : Jvm.MethodName) jdk_42_method_66_code (3 : Nat) (Option.some Jvm.ClassFile.FieldType.boolean), Jvm.Cond.code ({ cls := "java/lang/StringLatin1", name := "equals", desc := "([B[B)Z" } : Jvm.MethodName) jdk_43_method_13_code (3 : Nat) (Option.some Jvm.ClassFile.FieldType.boolean), Jvm.Cond.code ({ cls := "com/example/facts_from_rules/factsfromrules/Constant", name := "<init>", desc := "(Ljava/lang/Object;)V" } : Jvm.MethodName) prog_6_method_1_code (2 : Nat) (Option.none : Option Jvm.ClassFile.FieldType)]
set_option maxRecDepth 65536 in
theorem codes_eq : words1.filter isCode = codes1 := rfl
theorem w_codes : ∀ c ∈ words1.filter isCode, c.before args0 about1 = true := by
  rw [codes_eq]
  intro c hc
  simp only [codes1, List.mem_cons, List.not_mem_nil, or_false] at hc
  rcases hc with rfl | rfl | rfl | rfl | rfl | rfl | rfl | rfl | rfl | rfl | rfl | rfl | rfl
  · exact w_c0
  · exact w_c1
  · exact w_c2
  · exact w_c3
  · exact w_c4
  · exact w_c5
  · exact w_c6
  · exact w_c7
  · exact w_c8
  · exact w_c9
  · exact w_c10
  · exact w_c11
  · exact w_c12
set_option maxRecDepth 65536 in
theorem w_t1 : (words1.take 24).all (fun c => isCode c || c.before args0 about1) = true := by decide +kernel
set_option maxRecDepth 65536 in
theorem w_t2 : ((words1.drop 24).take 24).all (fun c => isCode c || c.before args0 about1) = true := by decide +kernel
set_option maxRecDepth 65536 in
theorem w_t3 : (((words1.drop 24).drop 24).take 24).all (fun c => isCode c || c.before args0 about1) = true := by decide +kernel
set_option maxRecDepth 65536 in
theorem w_t4 : (((words1.drop 24).drop 24).drop 24).all (fun c => isCode c || c.before args0 about1) = true := by decide +kernel
theorem w_tables : (allAtoms (Jvm.Cond.code x code maxLocals ret :: tables_1)).before args0 about1 = true := by
  rw [allAtoms_all]
  show words1.all (fun c => c.before args0 about1) = true
  refine all_split ?_ w_codes
  rw [← List.take_append_drop 24 words1, List.all_append, w_t1, ← List.take_append_drop 24 (words1.drop 24), List.all_append, w_t2, ← List.take_append_drop 24 ((words1.drop 24).drop 24), List.all_append, w_t3, w_t4]
  rfl
set_option maxRecDepth 65536 in
theorem w_rest : rest_1_c.before args0 about1 = true := by decide +kernel
set_option maxRecDepth 65536 in
theorem w_case : (Jvm.Cond.and given_1 narrow_1).before args0 about1 = true := by decide +kernel
set_option maxRecDepth 65536 in
theorem w_consts : constsHeld consts_1 about1 := Jvm.Lit.constsHeldB_iff.mp (by decide +kernel)
theorem w_applies : (headSpec (Jvm.Cond.code x code maxLocals ret :: tables_1) room_1).applies x e0.platform about1 = true :=
  (Spec.applies_iff w_frames).mpr ⟨w_running, w_runnable, w_alone, w_named, w_hears, w_ripe, w_room, w_tables⟩
theorem atStart : AtStart classFile x code maxLocals ret World_1 tables_1 room_1 Calls_1 rest_1 Pre_1 launch0 p0 e0 about1 theMethod args0 below0 :=
  ⟨lists_1, trivial, launch0.admits_env _ _ _, launch0.least_env, fairChoices_fair.cas, fairChoices_fair.clock, w_frames, w_args, w_heap, w_applies, ⟨w_consts, trivial⟩, w_rest, w_case⟩
end start1
theorem witness_1 : WitnessClaimed_1 := ⟨start1.p0, start1.e0, start1.about1, start1.theMethod, start1.args0, start1.below0, start1.atStart⟩
end Jvm.Pilot.@@N@@
