import JvmDerived
import JvmDerived.Pilot.@@N@@Statement
import JvmDerived.Pilot.@@N@@Code
set_option linter.unusedVariables false
set_option linter.unusedSimpArgs false
namespace Jvm.RoadKit
open Sem ClassFile Op Lib Jvm.Stand Jvm.Free Jvm.LawKit
section New
variable {p : Program} {l : Launch} {e : Env} {R : Room} {s : State} {m : MethodId} {args : Array Value} {below : List Frame} {meth : Method} {c : Code} {T : State} {locs : List Loc} {cells slots : Nat}
theorem retI (X : Stand p l e R s m args below meth c T locs cells slots) (hx : p.tables.exec = Jvm.exec) {pc : Nat} {Ls : Array Slot} {z : Int32} {rest : List Value} (hret : meth.sig.returnType = some .int) (hd : decode c.code pc = .ok (.ireturn, 1)) {fs : List Frame}
    (hl : ∀ (f : JFrame) (acts : List Action), f.method = m → f.locked = none → f.entered = [] → (doReturn e (T.setTop f) acts (some (.int z))).1 = T.setFrames fs) : Steps p.tables e below (T.setTop (mkF m pc Ls (.int z :: rest))) (T.setFrames fs) := by
  have hm' : T.vm.method? m = some meth := X.method'
  have hn : narrow .int (.int z) = .int z := rfl
  show Steps p.tables e below (T.setTop { method := m, pc := pc, locals := Ls, stack := _ :: rest, locked := none }) _
  jvm_step X.here [X.here.top, hx, hd, hm', hret, hn]
  first | (intro acts; rw [hl _ acts rfl rfl rfl]) | rw [hl _ _ rfl rfl rfl]
  exact Steps.refl _
end New
end Jvm.RoadKit
/- laws to paste: Road.eqW, Road.backV, Road.codOf (cut by pick.py; bodies as the Statement names them) -/
namespace Jvm.Pilot.@@N@@
namespace StrChars
open Jvm Sem ClassFile Op Lib Jvm.Stand Jvm.Free.XT Jvm.Free.ALB Jvm.Free.JM Jvm.Free
open Jvm.Lib.Cold (StaticIs)
/-- a char array whose places are chars -/
def Ch (a : Addr) (A : Cell) (U : State) : Prop := Arr .char a A U ∧ Typed .char A
theorem Ch.mv {a : Addr} {A : Cell} {U U' : State} (h : Ch a A U) (hal : U.vm.Alike U'.vm) (hh : U'.heap = U.heap) : Ch a A U' := ⟨h.1.mv hal hh, h.2⟩
theorem Ch.keep {a : Addr} {A : Cell} {U U' : State} (h : Ch a A U) (hal : U.vm.Alike U'.vm) (hk : U'.heap[a]? = some A) : Ch a A U' := ⟨h.1.keep hal hk, h.2⟩
/-- what place i of a char[]'s cell holds -/
def cv (A : Cell) (i : Nat) : Int32 := match A.slots[i]? with | some (.int x) => x | _ => 0
theorem Ch.get {a : Addr} {A : Cell} {U : State} (h : Ch a A U) {i : Nat} (hi : i < A.slots.size) : A.slots[i]? = some (.int (cv A i)) := by
  have e := Array.getElem?_eq_getElem hi
  have f := h.2 i _ e
  unfold cv; rw [e]
  generalize A.slots[i] = v at f
  cases v <;> simp [fits] at f ⊢
/-- the byte that i2b leaves of a char -/
def lo8 (x : Int32) : Int32 := x.toInt8.toInt32
theorem fits_lo8 (y : Int32) : fits .byte (.int (lo8 y)) = true := by
  have h1 := y.toInt8.le_toInt
  have h2 := y.toInt8.toInt_lt
  simp only [lo8, fits, Bool.and_eq_true, decide_eq_true_eq, Int32.le_iff_toInt_le, Int8.toInt_toInt32, show (-128 : Int32).toInt = -128 from by decide, show (127 : Int32).toInt = 127 from by decide]
  omega
/-- A' is A but that each place j of lo .. hi - 1 holds f j -/
def Laid (A A' : Cell) (lo hi : Nat) (f : Nat → Value) : Prop := A'.cls = A.cls ∧ A'.vm = A.vm ∧ A'.slots.size = A.slots.size ∧ ∀ i, A'.slots[i]? = if lo ≤ i ∧ i < hi then some (f i) else A.slots[i]?
theorem Laid.zero (A : Cell) (lo : Nat) (f : Nat → Value) : Laid A A lo (lo + 0) f := ⟨rfl, rfl, rfl, fun i => by rw [if_neg (by omega)]⟩
theorem Laid.step {A Ak : Cell} {lo k : Nat} {f : Nat → Value} {v : Value} (h : Laid A Ak lo k f) (hlo : lo ≤ k) (hk : k < Ak.slots.size) (hv : v = f k) : Laid A (Ak.setSlot k v) lo (k + 1) f := by
  refine ⟨h.1, h.2.1, by simpa [Cell.setSlot] using h.2.2.1, fun i => ?_⟩
  by_cases e : k = i
  · subst e; rw [Cell.slots_setSlot_self v hk, if_pos (by omega), hv]
  · rw [Cell.slots_setSlot_ne v e, h.2.2.2 i]
    by_cases q : lo ≤ i ∧ i < k
    · rw [if_pos q, if_pos (by omega)]
    · rw [if_neg q, if_neg (by omega)]
def U16 : String := "java/lang/StringUTF16"
namespace Cmp5
def yN : MethodName := ⟨"java/lang/StringUTF16", "compress", "([CI[BII)I"⟩
abbrev yB : ByteArray := jdk_52_method_21_code
theorem d0 : decode yB 0 = .ok (.iconst 0, 1) := by decide +kernel
theorem d1 : decode yB 1 = .ok (.istore 5, 2) := by decide +kernel
theorem d3 : decode yB 3 = .ok (.iload 5, 2) := by decide +kernel
theorem d5 : decode yB 5 = .ok (.iload 4, 2) := by decide +kernel
theorem d7 : decode yB 7 = .ok (.if_icmp (.ge) 37, 3) := by decide +kernel
theorem d10 : decode yB 10 = .ok (.aload_n 0, 1) := by decide +kernel
theorem d11 : decode yB 11 = .ok (.iload_n 1, 1) := by decide +kernel
theorem d12 : decode yB 12 = .ok (.caload, 1) := by decide +kernel
theorem d13 : decode yB 13 = .ok (.istore 6, 2) := by decide +kernel
theorem d15 : decode yB 15 = .ok (.iload 6, 2) := by decide +kernel
theorem d17 : decode yB 17 = .ok (.sipush 255, 3) := by decide +kernel
theorem d20 : decode yB 20 = .ok (.if_icmp (.le) 6, 3) := by decide +kernel
theorem d26 : decode yB 26 = .ok (.aload_n 2, 1) := by decide +kernel
theorem d27 : decode yB 27 = .ok (.iload_n 3, 1) := by decide +kernel
theorem d28 : decode yB 28 = .ok (.iload 6, 2) := by decide +kernel
theorem d30 : decode yB 30 = .ok (.i2b, 1) := by decide +kernel
theorem d31 : decode yB 31 = .ok (.bastore, 1) := by decide +kernel
theorem d32 : decode yB 32 = .ok (.iinc 1 1, 3) := by decide +kernel
theorem d35 : decode yB 35 = .ok (.iinc 3 1, 3) := by decide +kernel
theorem d38 : decode yB 38 = .ok (.iinc 5 1, 3) := by decide +kernel
theorem d41 : decode yB 41 = .ok (.goto (-38), 3) := by decide +kernel
theorem d44 : decode yB 44 = .ok (.iload 4, 2) := by decide +kernel
theorem d46 : decode yB 46 = .ok (.ireturn, 1) := by decide +kernel
def site : List Cond := []
def tab : Cond := tabOf yN yB 7 (some .int) site
def P (b : Addr) (A : Cell) (d : Addr) (B : Cell) (o q len : Nat) (args : Array Value) (s : State) : Prop := args = #[.ref b, .int (Int32.ofNat o), .ref d, .int (Int32.ofNat q), .int (Int32.ofNat len)] ∧ Ch b A s ∧ Arr .byte d B s ∧ b ≠ d ∧ o + len ≤ A.slots.size ∧ q + len ≤ B.slots.size ∧ ∀ i, i < len → ¬ 255 < cv A (o + i)
def E (b : Addr) (A : Cell) (d : Addr) (B : Cell) (o q len : Nat) (r : Option Value) (s u : State) : Prop := r = some (.int (Int32.ofNat len)) ∧ ∃ B', Put d B' s u ∧ Laid B B' q (q + len) (fun j => Value.int (lo8 (cv A (o + (j - q)))))
/-- no char of the range above 255: len; the places written hold each char's low byte -/
theorem law (l : Launch) (b : Addr) (A : Cell) (d : Addr) (B : Cell) (o q len : Nat) : Law l yN 5 5 0 0 yB 7 (some .int) site (P b A d B o q len) (E b A d B o q len) (copyLocs d q len) 0 0 := by
  refine Law.of_walk (plainFor_of_name (by decide +kernel)) (by decide +kernel) (by decide +kernel) (by decide) (fun _ _ h => by rw [h.1]; rfl) (fun _ U U' hal hh h => ⟨h.1, h.2.1.mv hal hh, h.2.2.1.mv hal hh, h.2.2.2⟩) (fun r U U' V V' h1 hal h2 h => ⟨h.1, h.2.elim fun B' q => ⟨B', q.1.mv h1 h2, q.2⟩⟩) ?_
  intro p e s m args below meth c s₁ X0 hexec hbytes hml hret hlk hnm hown hh0 W hP
  obtain ⟨rfl, hA, hB, hne, l1, l2, hp⟩ := hP
  have c1 : Steps p.tables e below (s₁.setTop (entryFrame m #[.ref b, .int (Int32.ofNat o), .ref d, .int (Int32.ofNat q), .int (Int32.ofNat len)] 7)) (s₁.setTop (mkF m 0 #[.val (.ref b), .val (.int (Int32.ofNat o)), .val (.ref d), .val (.int (Int32.ofNat q)), .val (.int (Int32.ofNat len)), .unset, .unset] [])) := entry rfl
  have hA0 := hA.1.mv X0.warmed.alike hh0
  have hB0 := hB.mv X0.warmed.alike hh0
  have a31 := hA.1.2.2.2
  have c2 : Steps p.tables e below (s₁.setTop (entryFrame m #[.ref b, .int (Int32.ofNat o), .ref d, .int (Int32.ofNat q), .int (Int32.ofNat len)] 7)) (s₁.setTop (mkF m 3 #[.val (.ref b), .val (.int (Int32.ofNat o)), .val (.ref d), .val (.int (Int32.ofNat q)), .val (.int (Int32.ofNat len)), .val (.int 0), .unset] [])) := c1.trans (by
    refine iconstV X0.here hexec rfl 0 (hb hbytes d0) (by decide) ?_
    refine XS.istore X0.here hexec rfl (hb hbytes d1) rfl rfl ?_
    exact Steps.refl _)
  have loop : ∀ (r i : Nat), i + r = len → ∀ (z : Slot), (z = .unset ∨ ∃ w, z = .val w ∧ w.category = 1) → ∀ (Tl : State) (Bk : Cell), Stand p l e { frames := 0, locals := 0, cells := 0, slots := 0 } s m #[.ref b, .int (Int32.ofNat o), .ref d, .int (Int32.ofNat q), .int (Int32.ofNat len)] below meth c Tl ([] ++ copyLocs d q i) 0 0 → Put d Bk s₁ Tl → Laid B Bk q (q + i) (fun j => Value.int (lo8 (cv A (o + (j - q))))) →
      Steps p.tables e below (s₁.setTop (entryFrame m #[.ref b, .int (Int32.ofNat o), .ref d, .int (Int32.ofNat q), .int (Int32.ofNat len)] 7)) (Tl.setTop (mkF m 3 #[.val (.ref b), .val (.int (Int32.ofNat (o + i))), .val (.ref d), .val (.int (Int32.ofNat (q + i))), .val (.int (Int32.ofNat len)), .val (.int (Int32.ofNat i)), z] [])) → ∃ (T' : State) (B' : Cell) (z' : Slot), Stand p l e { frames := 0, locals := 0, cells := 0, slots := 0 } s m #[.ref b, .int (Int32.ofNat o), .ref d, .int (Int32.ofNat q), .int (Int32.ofNat len)] below meth c T' ([] ++ copyLocs d q len) 0 0 ∧ Put d B' s₁ T' ∧ Laid B B' q (q + len) (fun j => Value.int (lo8 (cv A (o + (j - q))))) ∧
      Steps p.tables e below (s₁.setTop (entryFrame m #[.ref b, .int (Int32.ofNat o), .ref d, .int (Int32.ofNat q), .int (Int32.ofNat len)] 7)) (T'.setTop (mkF m 3 #[.val (.ref b), .val (.int (Int32.ofNat (o + len))), .val (.ref d), .val (.int (Int32.ofNat (q + len))), .val (.int (Int32.ofNat len)), .val (.int (Int32.ofNat len)), z'] [])) := by
    intro r
    induction r with
    | zero =>
      intro i hi z hz Tl Bk Xl pl fl cl
      have hil : i = len := by omega
      rw [hil] at Xl fl cl
      exact ⟨Tl, Bk, z, Xl, pl, fl, cl⟩
    | succ r ih =>
      intro i hi z hz Tl Bk Xl pl fl cl
      have all := X0.warmed.alike.symm.trans Xl.warmed.alike
      have hAl := hA0.keep all (pl.other hne hA0.1)
      have hBk := hB0.like all pl.1 fl.1 fl.2.1 fl.2.2.1
      have hlt : q + i < Bk.slots.size := by rw [fl.2.2.1]; omega
      have c3 : Steps p.tables e below (s₁.setTop (entryFrame m #[.ref b, .int (Int32.ofNat o), .ref d, .int (Int32.ofNat q), .int (Int32.ofNat len)] 7)) (Tl.setTop (mkF m 12 #[.val (.ref b), .val (.int (Int32.ofNat (o + i))), .val (.ref d), .val (.int (Int32.ofNat (q + i))), .val (.int (Int32.ofNat len)), .val (.int (Int32.ofNat i)), z] [.int (Int32.ofNat (o + i)), .ref b])) := cl.trans (by
        refine XS.iload Xl.here hexec rfl (hb hbytes d3) rfl ?_
        refine XS.iload Xl.here hexec rfl (hb hbytes d5) rfl ?_
        refine XS.icmpNo Xl.here hexec rfl (hb hbytes d7) rfl (ii_ge_f (lt32 (by omega) (by omega))) ?_
        refine XS.aloadN Xl.here hexec rfl (hb hbytes d10) rfl rfl ?_
        refine XS.iloadN Xl.here hexec rfl (hb hbytes d11) rfl ?_
        exact Steps.refl _)
      have c4 : Steps p.tables e below (s₁.setTop (entryFrame m #[.ref b, .int (Int32.ofNat o), .ref d, .int (Int32.ofNat q), .int (Int32.ofNat len)] 7)) (Tl.setTop (mkF m 13 #[.val (.ref b), .val (.int (Int32.ofNat (o + i))), .val (.ref d), .val (.int (Int32.ofNat (q + i))), .val (.int (Int32.ofNat len)), .val (.int (Int32.ofNat i)), z] [.int (cv A (o + i))])) := c3.trans (by
        refine Xl.aget hexec hAl rfl (hA.get (i := o + i) (by omega)) rfl rfl (hb hbytes d12) ?_
        exact Steps.refl _)
      have c5 : Steps p.tables e below (s₁.setTop (entryFrame m #[.ref b, .int (Int32.ofNat o), .ref d, .int (Int32.ofNat q), .int (Int32.ofNat len)] 7)) (Tl.setTop (mkF m 15 #[.val (.ref b), .val (.int (Int32.ofNat (o + i))), .val (.ref d), .val (.int (Int32.ofNat (q + i))), .val (.int (Int32.ofNat len)), .val (.int (Int32.ofNat i)), .val (.int (cv A (o + i)))] [])) := c4.trans (by
        refine XS.istoreS Xl.here hexec rfl (hb hbytes d13) rfl rfl hz ?_
        exact Steps.refl _)
      have c6 : Steps p.tables e below (s₁.setTop (entryFrame m #[.ref b, .int (Int32.ofNat o), .ref d, .int (Int32.ofNat q), .int (Int32.ofNat len)] 7)) (Tl.setTop (mkF m 31 #[.val (.ref b), .val (.int (Int32.ofNat (o + i))), .val (.ref d), .val (.int (Int32.ofNat (q + i))), .val (.int (Int32.ofNat len)), .val (.int (Int32.ofNat i)), .val (.int (cv A (o + i)))] [.int (lo8 (cv A (o + i))), .int (Int32.ofNat (q + i)), .ref d])) := c5.trans (by
        refine XS.iload Xl.here hexec rfl (hb hbytes d15) rfl ?_
        refine sipushV Xl.here hexec rfl 255 (hb hbytes d17) (by decide) ?_
        refine XS.icmpYes Xl.here hexec rfl (pc0 := 20) rfl (hb hbytes d20) rfl (ii_le_t (hp i (by omega))) (by decide) rfl ?_
        refine XS.aloadN Xl.here hexec rfl (hb hbytes d26) rfl rfl ?_
        refine XS.iloadN Xl.here hexec rfl (hb hbytes d27) rfl ?_
        refine XS.iload Xl.here hexec rfl (hb hbytes d28) rfl ?_
        refine i2b Xl.here hexec rfl (hb hbytes d30) rfl ?_
        exact Steps.refl _)
      obtain ⟨T7, X7, p7, st7⟩ := Xl.aput hexec hBk rfl hlt rfl (fits_lo8 (cv A (o + i))) (g := (mkF m 31 #[.val (.ref b), .val (.int (Int32.ofNat (o + i))), .val (.ref d), .val (.int (Int32.ofNat (q + i))), .val (.int (Int32.ofNat len)), .val (.int (Int32.ofNat i)), .val (.int (cv A (o + i)))] [.int (lo8 (cv A (o + i))), .int (Int32.ofNat (q + i)), .ref d])) rfl (rest := []) rfl (hb hbytes d31)
      have c8 : Steps p.tables e below (s₁.setTop (entryFrame m #[.ref b, .int (Int32.ofNat o), .ref d, .int (Int32.ofNat q), .int (Int32.ofNat len)] 7)) (T7.setTop (mkF m 32 #[.val (.ref b), .val (.int (Int32.ofNat (o + i))), .val (.ref d), .val (.int (Int32.ofNat (q + i))), .val (.int (Int32.ofNat len)), .val (.int (Int32.ofNat i)), .val (.int (cv A (o + i)))] [])) := c6.trans (st7 _ (Steps.refl _))
      have c9 : Steps p.tables e below (s₁.setTop (entryFrame m #[.ref b, .int (Int32.ofNat o), .ref d, .int (Int32.ofNat q), .int (Int32.ofNat len)] 7)) (T7.setTop (mkF m 3 #[.val (.ref b), .val (.int (Int32.ofNat (o + i) + 1)), .val (.ref d), .val (.int (Int32.ofNat (q + i) + 1)), .val (.int (Int32.ofNat len)), .val (.int (Int32.ofNat i + 1)), .val (.int (cv A (o + i)))] [])) := c8.trans (by
        refine iincV X7.here hexec rfl 1 (hb hbytes d32) (by decide) rfl rfl ?_
        refine iincV X7.here hexec rfl 1 (hb hbytes d35) (by decide) rfl rfl ?_
        refine iincV X7.here hexec rfl 1 (hb hbytes d38) (by decide) rfl rfl ?_
        refine XS.goto X7.here hexec rfl (pc0 := 41) rfl (hb hbytes d41) (by decide) rfl ?_
        exact Steps.refl _)
      have c10 : Steps p.tables e below (s₁.setTop (entryFrame m #[.ref b, .int (Int32.ofNat o), .ref d, .int (Int32.ofNat q), .int (Int32.ofNat len)] 7)) (T7.setTop (mkF m 3 #[.val (.ref b), .val (.int (Int32.ofNat (o + (i + 1)))), .val (.ref d), .val (.int (Int32.ofNat (q + (i + 1)))), .val (.int (Int32.ofNat len)), .val (.int (Int32.ofNat (i + 1))), .val (.int (cv A (o + i)))] [])) := by
        have := c9
        rw [succ32, succ32, succ32] at this
        exact this
      exact ih (i + 1) (by omega) _ (Or.inr ⟨_, rfl, rfl⟩) T7 _ (by rw [copyLocs_step, ← List.append_assoc]; exact X7) (pl.trans p7) (fl.step (by omega) hlt (by simp)) c10
  obtain ⟨T9, B9, z9, X9, p9, f9, g9⟩ := loop len 0 (by omega) .unset (Or.inl rfl) s₁ B (by simpa [copyLocs] using X0) ⟨hB0.1, fun _ _ => rfl, rfl⟩ (Laid.zero _ _ _) c2
  have c11 : Steps p.tables e below (s₁.setTop (entryFrame m #[.ref b, .int (Int32.ofNat o), .ref d, .int (Int32.ofNat q), .int (Int32.ofNat len)] 7)) (T9.setTop (mkF m 46 #[.val (.ref b), .val (.int (Int32.ofNat (o + len))), .val (.ref d), .val (.int (Int32.ofNat (q + len))), .val (.int (Int32.ofNat len)), .val (.int (Int32.ofNat len)), z9] [.int (Int32.ofNat len)])) := g9.trans (by
    refine XS.iload X9.here hexec rfl (hb hbytes d3) rfl ?_
    refine XS.iload X9.here hexec rfl (hb hbytes d5) rfl ?_
    refine XS.icmpYes X9.here hexec rfl (pc0 := 7) rfl (hb hbytes d7) rfl (ii_ge_t (nlt32 (by omega) (Nat.le_refl _))) (by decide) rfl ?_
    refine XS.iload X9.here hexec rfl (hb hbytes d44) rfl ?_
    exact Steps.refl _)
  exact ⟨T9, some (.int (Int32.ofNat len)), _, _, _, X9, by simp, rfl, rfl, (fun h => by cases h), ⟨rfl, B9, p9.from hh0, f9⟩, fun fs hl => c11.trans (X9.ireturnOut hexec hret rfl (Or.inl rfl) (hb hbytes d46) hl)⟩
end Cmp5
namespace Cmp3
def yN : MethodName := ⟨"java/lang/StringUTF16", "compress", "([CII)[B"⟩
abbrev yB : ByteArray := jdk_52_method_16_code
theorem d0 : decode yB 0 = .ok (.iload_n 2, 1) := by decide +kernel
theorem d1 : decode yB 1 = .ok (.newarray .byte, 2) := by decide +kernel
theorem d3 : decode yB 3 = .ok (.astore_n 3, 1) := by decide +kernel
theorem d4 : decode yB 4 = .ok (.aload_n 0, 1) := by decide +kernel
theorem d5 : decode yB 5 = .ok (.iload_n 1, 1) := by decide +kernel
theorem d6 : decode yB 6 = .ok (.aload_n 3, 1) := by decide +kernel
theorem d7 : decode yB 7 = .ok (.iconst 0, 1) := by decide +kernel
theorem d8 : decode yB 8 = .ok (.iload_n 2, 1) := by decide +kernel
theorem d9 : decode yB 9 = .ok (.invokestatic 115, 3) := by decide +kernel
theorem d12 : decode yB 12 = .ok (.istore 4, 2) := by decide +kernel
theorem d14 : decode yB 14 = .ok (.iload 4, 2) := by decide +kernel
theorem d16 : decode yB 16 = .ok (.iload_n 2, 1) := by decide +kernel
theorem d17 : decode yB 17 = .ok (.if_icmp (.eq) 40, 3) := by decide +kernel
theorem d57 : decode yB 57 = .ok (.aload_n 3, 1) := by decide +kernel
theorem d58 : decode yB 58 = .ok (.areturn, 1) := by decide +kernel
def site : List Cond := [.arrayClass .byte, Cmp5.tab] ++ staticW U16 115 Cmp5.yN
def tab : Cond := tabOf yN yB 6 (some (.array .byte)) site
def P (b : Addr) (A : Cell) (o len : Nat) (args : Array Value) (s : State) : Prop := args = #[.ref b, .int (Int32.ofNat o), .int (Int32.ofNat len)] ∧ Ch b A s ∧ o + len ≤ A.slots.size ∧ len ≤ 536870912 ∧ ∀ i, i < len → ¬ 255 < cv A (o + i)
def E (b : Addr) (A : Cell) (o len : Nat) (r : Option Value) (s u : State) : Prop := NewArr .byte "[B" len (fun j => .int (lo8 (cv A (o + j)))) r s u ∧ u.heap.size = s.heap.size + 1
/-- no char of the range above 255: a new byte[] of their low bytes -/
theorem law (l : Launch) (b : Addr) (A : Cell) (o len : Nat) : Law l yN 3 3 1 18 yB 6 (some (.array .byte)) site (P b A o len) (E b A o len) [] 1 len := by
  refine Law.of_walk (plainFor_of_name (by decide +kernel)) (by decide +kernel) (by decide +kernel) (by decide) (fun _ _ h => by rw [h.1]; rfl) (fun _ U U' hal hh h => ⟨h.1, h.2.1.mv hal hh, h.2.2⟩) (fun r U U' V V' h1 hal h2 h => ⟨NewArr.mv r U U' V V' h1 hal h2 h.1, by rw [h1, h2]; exact h.2⟩) ?_
  intro p e s m args below meth c s₁ X0 hexec hbytes hml hret hlk hnm hown hh0 W hP
  obtain ⟨rfl, hA, l1, l2, hp⟩ := hP
  have a31 := hA.1.2.2.2
  have c1 : Steps p.tables e below (s₁.setTop (entryFrame m #[.ref b, .int (Int32.ofNat o), .int (Int32.ofNat len)] 6)) (s₁.setTop (mkF m 0 #[.val (.ref b), .val (.int (Int32.ofNat o)), .val (.int (Int32.ofNat len)), .unset, .unset, .unset] [])) := entry rfl
  have c2 : Steps p.tables e below (s₁.setTop (entryFrame m #[.ref b, .int (Int32.ofNat o), .int (Int32.ofNat len)] 6)) (s₁.setTop (mkF m 1 #[.val (.ref b), .val (.int (Int32.ofNat o)), .val (.int (Int32.ofNat len)), .unset, .unset, .unset] [.int (Int32.ofNat len)])) := c1.trans (by
    refine XS.iloadN X0.here hexec rfl (hb hbytes d0) rfl ?_
    exact Steps.refl _)
  obtain ⟨T3, B3, X3, ba3, bs3, bv3, bh3, bf3, st3⟩ := X0.anew hexec (atype := .byte) (wk W (.arrayClass .byte)) rfl (by show len * 1 ≤ _; omega) (by omega) (g := (mkF m 1 #[.val (.ref b), .val (.int (Int32.ofNat o)), .val (.int (Int32.ofNat len)), .unset, .unset, .unset] [.int (Int32.ofNat len)])) rfl (hb hbytes d1) (rest := []) rfl (Nat.le_refl _) (by show 0 + len ≤ len; omega)
  rw [hh0] at ba3 st3
  have kp3 : XT.Kept s T3 := (XT.Kept.of_eq hh0).push bh3
  have hA3 := hA.keep X3.warmed.alike (kp3 _ _ hA.1.1)
  have hne : b ≠ s.heap.size := hA.1.ne
  have c4 : Steps p.tables e below (s₁.setTop (entryFrame m #[.ref b, .int (Int32.ofNat o), .int (Int32.ofNat len)] 6)) (T3.setTop (mkF m 3 #[.val (.ref b), .val (.int (Int32.ofNat o)), .val (.int (Int32.ofNat len)), .unset, .unset, .unset] [.ref s.heap.size])) := c2.trans (st3 _ (Steps.refl _))
  have c5 : Steps p.tables e below (s₁.setTop (entryFrame m #[.ref b, .int (Int32.ofNat o), .int (Int32.ofNat len)] 6)) (T3.setTop (mkF m 9 #[.val (.ref b), .val (.int (Int32.ofNat o)), .val (.int (Int32.ofNat len)), .val (.ref s.heap.size), .unset, .unset] [.int (Int32.ofNat len), .int 0, .ref s.heap.size, .int (Int32.ofNat o), .ref b])) := c4.trans (by
    refine XS.astoreN X3.here hexec rfl (hb hbytes d3) rfl rfl rfl ?_
    refine XS.aloadN X3.here hexec rfl (hb hbytes d4) rfl rfl ?_
    refine XS.iloadN X3.here hexec rfl (hb hbytes d5) rfl ?_
    refine XS.aloadN X3.here hexec rfl (hb hbytes d6) rfl rfl ?_
    refine iconstV X3.here hexec rfl 0 (hb hbytes d7) (by decide) ?_
    refine XS.iloadN X3.here hexec rfl (hb hbytes d8) rfl ?_
    exact Steps.refl _)
  obtain ⟨v6, T6, X6, E6, g6⟩ := X3.callS hexec (Cmp5.law l b A s.heap.size B3 o 0 len) hown (wks W (staticW U16 115 Cmp5.yN)) (wk W Cmp5.tab) (W := 0) (Nat.le_of_ble_eq_true rfl) (Nat.le_of_ble_eq_true rfl) (Nat.le_refl _) (by show 0 + len + 0 ≤ len; omega) (g := (mkF m 9 #[.val (.ref b), .val (.int (Int32.ofNat o)), .val (.int (Int32.ofNat len)), .val (.ref s.heap.size), .unset, .unset] [.int (Int32.ofNat len), .int (Int32.ofNat 0), .ref s.heap.size, .int (Int32.ofNat o), .ref b])) rfl (by rw [hml]; rfl) c5 (argsL := [.ref b, .int (Int32.ofNat o), .ref s.heap.size, .int (Int32.ofNat 0), .int (Int32.ofNat len)]) (rest := []) rfl rfl (by show 2 * 0 + 0 ≤ _; decide) (hb hbytes d9) (⟨rfl, hA3, ba3, hne, l1, by rw [bs3]; simp, hp⟩)
  obtain ⟨rfl, B6, p6, f6⟩ := E6
  have c7 : Steps p.tables e below (s₁.setTop (entryFrame m #[.ref b, .int (Int32.ofNat o), .int (Int32.ofNat len)] 6)) (T6.setTop (mkF m 12 #[.val (.ref b), .val (.int (Int32.ofNat o)), .val (.int (Int32.ofNat len)), .val (.ref s.heap.size), .unset, .unset] [.int (Int32.ofNat len)])) := g6
  have c8 : Steps p.tables e below (s₁.setTop (entryFrame m #[.ref b, .int (Int32.ofNat o), .int (Int32.ofNat len)] 6)) (T6.setTop (mkF m 58 #[.val (.ref b), .val (.int (Int32.ofNat o)), .val (.int (Int32.ofNat len)), .val (.ref s.heap.size), .val (.int (Int32.ofNat len)), .unset] [.ref s.heap.size])) := c7.trans (by
    refine XS.istore X6.here hexec rfl (hb hbytes d12) rfl rfl ?_
    refine XS.iload X6.here hexec rfl (hb hbytes d14) rfl ?_
    refine XS.iloadN X6.here hexec rfl (hb hbytes d16) rfl ?_
    refine XS.icmpYes X6.here hexec rfl (pc0 := 17) rfl (hb hbytes d17) rfl (ii_eq_t rfl) (by decide) rfl ?_
    refine XS.aloadN X6.here hexec rfl (hb hbytes d57) rfl rfl ?_
    exact Steps.refl _)
  have X8 := X6.wide (L' := []) (cells' := 1) (slots' := len) (fun x hx hlt => by
    simp only [List.nil_append, copyLocs, List.mem_map, List.mem_range] at hx
    obtain ⟨i, -, rfl⟩ := hx
    exact absurd hlt (Nat.lt_irrefl _)) (Nat.le_refl _) (by omega)
  exact ⟨T6, some (.ref s.heap.size), _, _, _, X8, rfl, rfl, rfl, (fun h => by cases h), ⟨⟨rfl, B6, ba3.like (X3.warmed.alike.symm.trans X6.warmed.alike) p6.1 f6.1 f6.2.1 f6.2.2.1, f6.2.1.trans bv3, by rw [X6.warmed.alike.findClass, f6.1]; exact bf3, by rw [f6.2.2.1, bs3]; simp, fun j hj => by rw [f6.2.2.2 j, if_pos (by omega)]; rfl, kp3.put p6 (Nat.le_refl _)⟩, by rw [p6.2.2, bh3, hh0]; simp⟩, fun fs hl => c8.trans (X8.areturnOut hexec rfl hret rfl (hb hbytes d58) hl)⟩
end Cmp3
namespace CodL
def yN : MethodName := ⟨"java/lang/StringUTF16", "coderFromArrayLen", "([BI)B"⟩
abbrev yB : ByteArray := jdk_52_method_15_code
theorem d0 : decode yB 0 = .ok (.iload_n 1, 1) := by decide +kernel
theorem d1 : decode yB 1 = .ok (.aload_n 0, 1) := by decide +kernel
theorem d2 : decode yB 2 = .ok (.arraylength, 1) := by decide +kernel
theorem d3 : decode yB 3 = .ok (.isub, 1) := by decide +kernel
theorem d4 : decode yB 4 = .ok (.bipush 31, 2) := by decide +kernel
theorem d6 : decode yB 6 = .ok (.iushr, 1) := by decide +kernel
theorem d7 : decode yB 7 = .ok (.i2b, 1) := by decide +kernel
theorem d8 : decode yB 8 = .ok (.ireturn, 1) := by decide +kernel
def site : List Cond := []
def tab : Cond := tabOf yN yB 2 (some .byte) site
def P (d : Addr) (B : Cell) (args : Array Value) (s : State) : Prop := args = #[.ref d, .int (Int32.ofNat B.slots.size)] ∧ Arr .byte d B s
def E (r : Option Value) (s u : State) : Prop := XT.PureE (some (.int 0)) r s u
/-- an array as long as the number of chars: LATIN1 -/
theorem law (l : Launch) (d : Addr) (B : Cell) : Law l yN 2 2 0 0 yB 2 (some .byte) site (P d B) E [] 0 0 := by
  refine Law.of_walk (plainFor_of_name (by decide +kernel)) (by decide +kernel) (by decide +kernel) (by decide) (fun _ _ h => by rw [h.1]; rfl) (fun _ U U' hal hh h => ⟨h.1, h.2.mv hal hh⟩) (fun r U U' V V' h1 hal h2 h => XT.PureE.mv r U U' V V' h1 hal h2 h) ?_
  intro p e s m args below meth c s₁ X0 hexec hbytes hml hret hlk hnm hown hh0 W hP
  obtain ⟨rfl, hB⟩ := hP
  have hB0 := hB.mv X0.warmed.alike hh0
  have c1 : Steps p.tables e below (s₁.setTop (entryFrame m #[.ref d, .int (Int32.ofNat B.slots.size)] 2)) (s₁.setTop (mkF m 0 #[.val (.ref d), .val (.int (Int32.ofNat B.slots.size))] [])) := entry rfl
  have c2 : Steps p.tables e below (s₁.setTop (entryFrame m #[.ref d, .int (Int32.ofNat B.slots.size)] 2)) (s₁.setTop (mkF m 2 #[.val (.ref d), .val (.int (Int32.ofNat B.slots.size))] [.ref d, .int (Int32.ofNat B.slots.size)])) := c1.trans (by
    refine XS.iloadN X0.here hexec rfl (hb hbytes d0) rfl ?_
    refine XS.aloadN X0.here hexec rfl (hb hbytes d1) rfl rfl ?_
    exact Steps.refl _)
  have c3 : Steps p.tables e below (s₁.setTop (entryFrame m #[.ref d, .int (Int32.ofNat B.slots.size)] 2)) (s₁.setTop (mkF m 8 #[.val (.ref d), .val (.int (Int32.ofNat B.slots.size))] [.int (lo8 (ushr (Int32.ofNat B.slots.size - Int32.ofNat B.slots.size) 31))])) := c2.trans (by
    refine X0.alen hexec hB0 rfl rfl (hb hbytes d2) ?_
    refine XS.isub X0.here hexec rfl (hb hbytes d3) rfl ?_
    refine bipushV X0.here hexec rfl 31 (hb hbytes d4) (by decide) ?_
    refine iushr X0.here hexec rfl (hb hbytes d6) rfl ?_
    refine i2b X0.here hexec rfl (hb hbytes d7) rfl ?_
    exact Steps.refl _)
  have e0 : lo8 (ushr (Int32.ofNat B.slots.size - Int32.ofNat B.slots.size) 31) = 0 := by rw [Int32.sub_self]; decide
  rw [e0] at c3
  exact ⟨s₁, some (.int 0), _, _, _, X0, rfl, rfl, rfl, (fun h => by cases h), ⟨rfl, hh0⟩, fun fs hl => c3.trans (X0.ireturnOut hexec hret rfl (Or.inr (Or.inr (Or.inl rfl))) (hb hbytes d8) hl)⟩
end CodL
/-- the String at a is Latin-1 over a new byte[] (the heap's one new cell): the low bytes of the len chars of A from o on; every cell but a is kept -/
def Got (a : Addr) (D : Cell) (fV fC : Field) (A : Cell) (o len : Nat) (r : Option Value) (s u : State) : Prop := r = none ∧ ∃ D' V : Cell, Blank "java/lang/String" a D' u ∧ Same D D' [fV.slot, fC.slot] ∧ D'.slots[fV.slot]? = some (.ref s.heap.size) ∧ D'.slots[fC.slot]? = some (.int 0) ∧ Arr .byte s.heap.size V u ∧ V.vm = .none ∧ u.vm.findClass "[B" = some V.cls ∧ V.slots.size = len ∧ (∀ j, j < len → V.slots[j]? = some (.int (lo8 (cv A (o + j))))) ∧ (∀ (y : Addr) (c : Cell), y ≠ a → s.heap[y]? = some c → u.heap[y]? = some c) ∧ u.heap.size = s.heap.size + 1
theorem Got.mv {a : Addr} {D A : Cell} {fV fC : Field} {o len : Nat} : ∀ r (U U' V V' : State), U'.heap = U.heap → V.vm.Alike V'.vm → V'.heap = V.heap → Got a D fV fC A o len r U V → Got a D fV fC A o len r U' V' :=
  fun r U U' V V' h1 hal h2 ⟨e0, D', X, a1, a2, a3, a4, a5, a6, a7, a8, a9, a10, a11⟩ => ⟨e0, D', X, a1.mv hal h2, a2, by rw [h1]; exact a3, a4, by rw [h1]; exact a5.mv hal h2, a6, by rw [hal.findClass]; exact a7, a8, a9, by rw [h1, h2]; exact a10, by rw [h1, h2]; exact a11⟩
namespace New4
def yN : MethodName := ⟨"java/lang/String", "<init>", "([CIILjava/lang/Void;)V"⟩
abbrev yB : ByteArray := jdk_42_method_149_code
theorem d0 : decode yB 0 = .ok (.aload_n 0, 1) := by decide +kernel
theorem d1 : decode yB 1 = .ok (.invokespecial 1, 3) := by decide +kernel
theorem d4 : decode yB 4 = .ok (.iload_n 3, 1) := by decide +kernel
theorem d5 : decode yB 5 = .ok (.ifCond (.ne) 22, 3) := by decide +kernel
theorem d27 : decode yB 27 = .ok (.getstatic 38, 3) := by decide +kernel
theorem d30 : decode yB 30 = .ok (.ifCond (.eq) 28, 3) := by decide +kernel
theorem d33 : decode yB 33 = .ok (.aload_n 1, 1) := by decide +kernel
theorem d34 : decode yB 34 = .ok (.iload_n 2, 1) := by decide +kernel
theorem d35 : decode yB 35 = .ok (.iload_n 3, 1) := by decide +kernel
theorem d36 : decode yB 36 = .ok (.invokestatic 177, 3) := by decide +kernel
theorem d39 : decode yB 39 = .ok (.astore 5, 2) := by decide +kernel
theorem d41 : decode yB 41 = .ok (.aload_n 0, 1) := by decide +kernel
theorem d42 : decode yB 42 = .ok (.aload 5, 2) := by decide +kernel
theorem d44 : decode yB 44 = .ok (.iload_n 3, 1) := by decide +kernel
theorem d45 : decode yB 45 = .ok (.invokestatic 47, 3) := by decide +kernel
theorem d48 : decode yB 48 = .ok (.putfield 15, 3) := by decide +kernel
theorem d51 : decode yB 51 = .ok (.aload_n 0, 1) := by decide +kernel
theorem d52 : decode yB 52 = .ok (.aload 5, 2) := by decide +kernel
theorem d54 : decode yB 54 = .ok (.putfield 9, 3) := by decide +kernel
theorem d57 : decode yB 57 = .ok (.return_, 1) := by decide +kernel
def site : List Cond := [.fieldLink "java/lang/String" 38 "java/lang/String" "COMPACT_STRINGS" "Z", Cmp3.tab, CodL.tab, .laysFinal "java/lang/String" "java/lang/String" "value" "[B", .fieldLink "java/lang/String" 9 "java/lang/String" "value" "[B", .laysFinal "java/lang/String" "java/lang/String" "coder" "B", .fieldLink "java/lang/String" 15 "java/lang/String" "coder" "B"] ++ objW "java/lang/String" 1 ++ staticW "java/lang/String" 177 Cmp3.yN ++ staticW "java/lang/String" 47 CodL.yN
def tab : Cond := tabOf yN yB 6 none site
def P (a : Addr) (D : Cell) (fV fC : Field) (b : Addr) (A : Cell) (z : Int32) (o len : Nat) (args : Array Value) (s : State) : Prop := args = #[.ref a, .ref b, .int (Int32.ofNat o), .int (Int32.ofNat len), .null] ∧ Blank "java/lang/String" a D s ∧ Found "java/lang/String" "value" "[B" fV s ∧ Found "java/lang/String" "coder" "B" fC s ∧ Ch b A s ∧ StaticIs s "java/lang/String" "COMPACT_STRINGS" "Z" (.int z) ∧ ¬ z = 0 ∧ 0 < len ∧ o + len ≤ A.slots.size ∧ len ≤ 536870912 ∧ ∀ i, i < len → ¬ 255 < cv A (o + i)
def E (a : Addr) (D : Cell) (fV fC : Field) (A : Cell) (o len : Nat) (r : Option Value) (s u : State) : Prop := Got a D fV fC A o len r s u
/-- len > 0, no char of the range above 255: a Latin-1 String of their low bytes -/
theorem law (l : Launch) (a : Addr) (D : Cell) (fV fC : Field) (b : Addr) (A : Cell) (z : Int32) (o len : Nat) : Law l yN 5 4 2 35 yB 6 none site (P a D fV fC b A z o len) (E a D fV fC A o len) [⟨a, fC.slot⟩, ⟨a, fV.slot⟩] 1 len := by
  refine Law.of_walk (plainFor_of_name (by decide +kernel)) (by decide +kernel) (by decide +kernel) (by decide) (fun _ _ h => by rw [h.1]; rfl) (fun _ U U' hal hh h => ⟨h.1, h.2.1.mv hal hh, h.2.2.1.al hal, h.2.2.2.1.al hal, h.2.2.2.2.1.mv hal hh, h.2.2.2.2.2.1.there hal hh, h.2.2.2.2.2.2⟩) (fun r U U' V V' h1 hal h2 h => Got.mv r U U' V V' h1 hal h2 h) ?_
  intro p e s m args below meth c s₁ X0 hexec hbytes hml hret hlk hnm hown hh0 W hP
  obtain ⟨rfl, hB, f1, f2, hA, s1, hz, l0, l1, l2, hp⟩ := hP
  have a31 := hA.1.2.2.2
  have c1 : Steps p.tables e below (s₁.setTop (entryFrame m #[.ref a, .ref b, .int (Int32.ofNat o), .int (Int32.ofNat len), .null] 6)) (s₁.setTop (mkF m 0 #[.val (.ref a), .val (.ref b), .val (.int (Int32.ofNat o)), .val (.int (Int32.ofNat len)), .val .null, .unset] [])) := entry rfl
  have c2 : Steps p.tables e below (s₁.setTop (entryFrame m #[.ref a, .ref b, .int (Int32.ofNat o), .int (Int32.ofNat len), .null] 6)) (s₁.setTop (mkF m 1 #[.val (.ref a), .val (.ref b), .val (.int (Int32.ofNat o)), .val (.int (Int32.ofNat len)), .val .null, .unset] [.ref a])) := c1.trans (by
    refine XS.aloadN X0.here hexec rfl (hb hbytes d0) rfl rfl ?_
    exact Steps.refl _)
  obtain ⟨T3, X3, q3, st3⟩ := X0.oinit hexec hown (wks W (objW "java/lang/String" 1)) (g := (mkF m 1 #[.val (.ref a), .val (.ref b), .val (.int (Int32.ofNat o)), .val (.int (Int32.ofNat len)), .val .null, .unset] [.ref a])) rfl (by rw [hml]; rfl) (rest := []) rfl (hb hbytes d1) (W := 0) (by show 2 * 0 + 0 ≤ _; decide) (Nat.le_of_ble_eq_true rfl) (Nat.le_of_ble_eq_true rfl)
  have hh3 := q3.trans hh0
  have c4 : Steps p.tables e below (s₁.setTop (entryFrame m #[.ref a, .ref b, .int (Int32.ofNat o), .int (Int32.ofNat len), .null] 6)) (T3.setTop (mkF m 27 #[.val (.ref a), .val (.ref b), .val (.int (Int32.ofNat o)), .val (.int (Int32.ofNat len)), .val .null, .unset] [])) := (c2.trans (st3 _ (Steps.refl _))).trans (by
    refine XS.iloadN X3.here hexec rfl (hb hbytes d4) rfl ?_
    refine XS.ifYes X3.here hexec rfl (pc0 := 5) rfl (hb hbytes d5) rfl (i0_ne_t (nz32 (by omega) l0)) (by decide) rfl ?_
    exact Steps.refl _)
  obtain ⟨T5, X5, q5, st5⟩ := X3.sget hexec hown (wk W (.fieldLink "java/lang/String" 38 "java/lang/String" "COMPACT_STRINGS" "Z")) s1 (fun _ _ h => by rw [hh3]; exact h) (g := (mkF m 27 #[.val (.ref a), .val (.ref b), .val (.int (Int32.ofNat o)), .val (.int (Int32.ofNat len)), .val .null, .unset] [])) rfl (hb hbytes d27)
  have hh5 := q5.trans hh3
  have c6 : Steps p.tables e below (s₁.setTop (entryFrame m #[.ref a, .ref b, .int (Int32.ofNat o), .int (Int32.ofNat len), .null] 6)) (T5.setTop (mkF m 30 #[.val (.ref a), .val (.ref b), .val (.int (Int32.ofNat o)), .val (.int (Int32.ofNat len)), .val .null, .unset] [.int z])) := c4.trans (st5 _ (Steps.refl _))
  have c7 : Steps p.tables e below (s₁.setTop (entryFrame m #[.ref a, .ref b, .int (Int32.ofNat o), .int (Int32.ofNat len), .null] 6)) (T5.setTop (mkF m 36 #[.val (.ref a), .val (.ref b), .val (.int (Int32.ofNat o)), .val (.int (Int32.ofNat len)), .val .null, .unset] [.int (Int32.ofNat len), .int (Int32.ofNat o), .ref b])) := c6.trans (by
    refine XS.ifNo X5.here hexec rfl (hb hbytes d30) rfl (i0_eq_f hz) ?_
    refine XS.aloadN X5.here hexec rfl (hb hbytes d33) rfl rfl ?_
    refine XS.iloadN X5.here hexec rfl (hb hbytes d34) rfl ?_
    refine XS.iloadN X5.here hexec rfl (hb hbytes d35) rfl ?_
    exact Steps.refl _)
  obtain ⟨v8, T8, X8, E8, g8⟩ := X5.callS hexec (Cmp3.law l b A o len) hown (wks W (staticW "java/lang/String" 177 Cmp3.yN)) (wk W Cmp3.tab) (W := 0) (Nat.le_of_ble_eq_true rfl) (Nat.le_of_ble_eq_true rfl) (Nat.le_refl _) (by show 0 + len ≤ len; omega) (g := (mkF m 36 #[.val (.ref a), .val (.ref b), .val (.int (Int32.ofNat o)), .val (.int (Int32.ofNat len)), .val .null, .unset] [.int (Int32.ofNat len), .int (Int32.ofNat o), .ref b])) rfl (by rw [hml]; rfl) c7 (argsL := [.ref b, .int (Int32.ofNat o), .int (Int32.ofNat len)]) (rest := []) rfl rfl (by show 2 * 0 + 0 ≤ _; decide) (hb hbytes d36) (⟨rfl, hA.mv X5.warmed.alike hh5, l1, l2, hp⟩)
  obtain ⟨e8, z8⟩ := E8
  obtain ⟨rfl, N, n1, n2, n3, n4, n5, n6⟩ := NewArr.mv _ T5 s _ _ hh5.symm (Vm.Alike.refl _) rfl e8
  rw [hh5] at z8
  have hB1 := hB.keep X8.warmed.alike (n6 _ _ hB.1)
  have hne : s.heap.size ≠ a := (Nat.ne_of_lt (Array.getElem?_eq_some_iff.mp hB.1).1).symm
  have c9 : Steps p.tables e below (s₁.setTop (entryFrame m #[.ref a, .ref b, .int (Int32.ofNat o), .int (Int32.ofNat len), .null] 6)) (T8.setTop (mkF m 39 #[.val (.ref a), .val (.ref b), .val (.int (Int32.ofNat o)), .val (.int (Int32.ofNat len)), .val .null, .unset] [.ref s.heap.size])) := g8
  have c10 : Steps p.tables e below (s₁.setTop (entryFrame m #[.ref a, .ref b, .int (Int32.ofNat o), .int (Int32.ofNat len), .null] 6)) (T8.setTop (mkF m 45 #[.val (.ref a), .val (.ref b), .val (.int (Int32.ofNat o)), .val (.int (Int32.ofNat len)), .val .null, .val (.ref s.heap.size)] [.int (Int32.ofNat N.slots.size), .ref s.heap.size, .ref a])) := by
    have hc : Steps p.tables e below (s₁.setTop (entryFrame m #[.ref a, .ref b, .int (Int32.ofNat o), .int (Int32.ofNat len), .null] 6)) (T8.setTop (mkF m 45 #[.val (.ref a), .val (.ref b), .val (.int (Int32.ofNat o)), .val (.int (Int32.ofNat len)), .val .null, .val (.ref s.heap.size)] [.int (Int32.ofNat len), .ref s.heap.size, .ref a])) := c9.trans (by
      refine XS.astore X8.here hexec rfl (hb hbytes d39) rfl rfl rfl ?_
      refine XS.aloadN X8.here hexec rfl (hb hbytes d41) rfl rfl ?_
      refine XS.aload X8.here hexec rfl (hb hbytes d42) rfl rfl ?_
      refine XS.iloadN X8.here hexec rfl (hb hbytes d44) rfl ?_
      exact Steps.refl _)
    rw [n4]; exact hc
  obtain ⟨v11, T11, X11, E11, g11⟩ := X8.callS hexec (CodL.law l s.heap.size N) hown (wks W (staticW "java/lang/String" 47 CodL.yN)) (wk W CodL.tab) (W := 1) (Nat.le_of_ble_eq_true rfl) (Nat.le_of_ble_eq_true rfl) (Nat.le_refl _) (by show 0 + len + 0 ≤ len; omega) (g := (mkF m 45 #[.val (.ref a), .val (.ref b), .val (.int (Int32.ofNat o)), .val (.int (Int32.ofNat len)), .val .null, .val (.ref s.heap.size)] [.int (Int32.ofNat N.slots.size), .ref s.heap.size, .ref a])) rfl (by rw [hml]; rfl) c10 (argsL := [.ref s.heap.size, .int (Int32.ofNat N.slots.size)]) (rest := [.ref a]) rfl rfl (by show 2 * 0 + (1 + 0) ≤ _; decide) (hb hbytes d45) (⟨rfl, n1⟩)
  obtain ⟨rfl, q11⟩ := E11
  have hB11 := hB1.mv (X8.warmed.alike.symm.trans X11.warmed.alike) q11
  have c12 : Steps p.tables e below (s₁.setTop (entryFrame m #[.ref a, .ref b, .int (Int32.ofNat o), .int (Int32.ofNat len), .null] 6)) (T11.setTop (mkF m 48 #[.val (.ref a), .val (.ref b), .val (.int (Int32.ofNat o)), .val (.int (Int32.ofNat len)), .val .null, .val (.ref s.heap.size)] [.int 0, .ref a])) := g11
  obtain ⟨T13, X13, p13, bl13, sl13, st13⟩ := X11.finit hexec hown (wk W (.fieldLink "java/lang/String" 15 "java/lang/String" "coder" "B")) (Or.inr ⟨_, (wk W (.laysFinal "java/lang/String" "java/lang/String" "coder" "B"))⟩) (Or.inl ⟨rfl, hnm⟩) f2 (Or.inl rfl) hB11 (t := .byte) (by decide +kernel) rfl (g := (mkF m 48 #[.val (.ref a), .val (.ref b), .val (.int (Int32.ofNat o)), .val (.int (Int32.ofNat len)), .val .null, .val (.ref s.heap.size)] [.int 0, .ref a])) rfl (rest := []) rfl (hb hbytes d48)
  have c14 : Steps p.tables e below (s₁.setTop (entryFrame m #[.ref a, .ref b, .int (Int32.ofNat o), .int (Int32.ofNat len), .null] 6)) (T13.setTop (mkF m 54 #[.val (.ref a), .val (.ref b), .val (.int (Int32.ofNat o)), .val (.int (Int32.ofNat len)), .val .null, .val (.ref s.heap.size)] [.ref s.heap.size, .ref a])) := (c12.trans (st13 _ (Steps.refl _))).trans (by
    refine XS.aloadN X13.here hexec rfl (hb hbytes d51) rfl rfl ?_
    refine XS.aload X13.here hexec rfl (hb hbytes d52) rfl rfl ?_
    exact Steps.refl _)
  obtain ⟨T15, X15, p15, bl15, sl15, st15⟩ := X13.finit hexec hown (wk W (.fieldLink "java/lang/String" 9 "java/lang/String" "value" "[B")) (Or.inr ⟨_, (wk W (.laysFinal "java/lang/String" "java/lang/String" "value" "[B"))⟩) (Or.inl ⟨rfl, hnm⟩) f1 (Or.inl rfl) bl13 (t := (.array .byte)) (by decide +kernel) rfl (g := (mkF m 54 #[.val (.ref a), .val (.ref b), .val (.int (Int32.ofNat o)), .val (.int (Int32.ofNat len)), .val .null, .val (.ref s.heap.size)] [.ref s.heap.size, .ref a])) rfl (rest := []) rfl (hb hbytes d54)
  have c16 : Steps p.tables e below (s₁.setTop (entryFrame m #[.ref a, .ref b, .int (Int32.ofNat o), .int (Int32.ofNat len), .null] 6)) (T15.setTop (mkF m 57 #[.val (.ref a), .val (.ref b), .val (.int (Int32.ofNat o)), .val (.int (Int32.ofNat len)), .val .null, .val (.ref s.heap.size)] [])) := c14.trans (st15 _ (Steps.refl _))
  have ap := apart (Or.inr ⟨_, (wk W (.laysFinal "java/lang/String" "java/lang/String" "value" "[B"))⟩) (Or.inr ⟨_, (wk W (.laysFinal "java/lang/String" "java/lang/String" "coder" "B"))⟩) f1 f2 (t₁ := .array .byte) (t₂ := .byte) (by decide +kernel) (by decide +kernel) (by decide)
  have al := X8.warmed.alike.symm.trans X15.warmed.alike
  have n7 : T11.heap[s.heap.size]? = some N := by rw [q11]; exact n1.1
  exact ⟨T15, none, _, _, _, X15, by simp, rfl, by omega, (fun _ => rfl), ⟨rfl, _, N, bl15, ((Same.refl D _).set _ (by simp)).set _ (by simp), sl15, (Cell.slots_setSlot_ne _ ap).trans sl13, n1.keep al (p15.other hne (p13.other hne n7)), n2, by rw [al.findClass]; exact n3, n4, n5, fun y c h1 h2 => p15.other h1 (p13.other h1 (by rw [q11]; exact n6 y c h2)), by rw [p15.2.2, p13.2.2, q11]; exact z8⟩, fun fs hl => c16.trans (X15.returnOut hexec hret (hb hbytes d57) hl)⟩
end New4
namespace New1
def yN : MethodName := ⟨"java/lang/String", "<init>", "([C)V"⟩
abbrev yB : ByteArray := jdk_42_method_3_code
theorem d0 : decode yB 0 = .ok (.aload_n 0, 1) := by decide +kernel
theorem d1 : decode yB 1 = .ok (.aload_n 1, 1) := by decide +kernel
theorem d2 : decode yB 2 = .ok (.iconst 0, 1) := by decide +kernel
theorem d3 : decode yB 3 = .ok (.aload_n 1, 1) := by decide +kernel
theorem d4 : decode yB 4 = .ok (.arraylength, 1) := by decide +kernel
theorem d5 : decode yB 5 = .ok (.aconst_null, 1) := by decide +kernel
theorem d6 : decode yB 6 = .ok (.invokespecial 27, 3) := by decide +kernel
theorem d9 : decode yB 9 = .ok (.return_, 1) := by decide +kernel
def site : List Cond := [New4.tab] ++ initW "java/lang/String" 27 New4.yN
def tab : Cond := tabOf yN yB 2 none site
def P (a : Addr) (D : Cell) (fV fC : Field) (b : Addr) (A : Cell) (z : Int32) (args : Array Value) (s : State) : Prop := args = #[.ref a, .ref b] ∧ Blank "java/lang/String" a D s ∧ Found "java/lang/String" "value" "[B" fV s ∧ Found "java/lang/String" "coder" "B" fC s ∧ Ch b A s ∧ StaticIs s "java/lang/String" "COMPACT_STRINGS" "Z" (.int z) ∧ ¬ z = 0 ∧ 0 < A.slots.size ∧ A.slots.size ≤ 536870912 ∧ ∀ i, i < A.slots.size → ¬ 255 < cv A i
def E (a : Addr) (D : Cell) (fV fC : Field) (A : Cell) (r : Option Value) (s u : State) : Prop := Got a D fV fC A 0 A.slots.size r s u
/-- new String(chars), not empty, no char above 255: a Latin-1 String of their low bytes -/
theorem law (l : Launch) (a : Addr) (D : Cell) (fV fC : Field) (b : Addr) (A : Cell) (z : Int32) : Law l yN 2 1 3 52 yB 2 none site (P a D fV fC b A z) (E a D fV fC A) [⟨a, fC.slot⟩, ⟨a, fV.slot⟩] 1 A.slots.size := by
  refine Law.of_walk (plainFor_of_name (by decide +kernel)) (by decide +kernel) (by decide +kernel) (by decide) (fun _ _ h => by rw [h.1]; rfl) (fun _ U U' hal hh h => ⟨h.1, h.2.1.mv hal hh, h.2.2.1.al hal, h.2.2.2.1.al hal, h.2.2.2.2.1.mv hal hh, h.2.2.2.2.2.1.there hal hh, h.2.2.2.2.2.2⟩) (fun r U U' V V' h1 hal h2 h => Got.mv r U U' V V' h1 hal h2 h) ?_
  intro p e s m args below meth c s₁ X0 hexec hbytes hml hret hlk hnm hown hh0 W hP
  obtain ⟨rfl, hB, f1, f2, hA, s1, hz, l0, l2, hp⟩ := hP
  have c1 : Steps p.tables e below (s₁.setTop (entryFrame m #[.ref a, .ref b] 2)) (s₁.setTop (mkF m 0 #[.val (.ref a), .val (.ref b)] [])) := entry rfl
  have c2 : Steps p.tables e below (s₁.setTop (entryFrame m #[.ref a, .ref b] 2)) (s₁.setTop (mkF m 6 #[.val (.ref a), .val (.ref b)] [.null, .int (Int32.ofNat A.slots.size), .int 0, .ref b, .ref a])) := c1.trans (by
    refine XS.aloadN X0.here hexec rfl (hb hbytes d0) rfl rfl ?_
    refine XS.aloadN X0.here hexec rfl (hb hbytes d1) rfl rfl ?_
    refine iconstV X0.here hexec rfl 0 (hb hbytes d2) (by decide) ?_
    refine XS.aloadN X0.here hexec rfl (hb hbytes d3) rfl rfl ?_
    refine X0.alen hexec (hA.1.mv X0.warmed.alike hh0) rfl rfl (hb hbytes d4) ?_
    refine XS.aconstNull X0.here hexec rfl (hb hbytes d5) ?_
    exact Steps.refl _)
  obtain ⟨v3, T3, X3, E3, g3⟩ := X0.callN hexec (New4.law l a D fV fC b A z 0 A.slots.size) rfl hown (wks W (initW "java/lang/String" 27 New4.yN)) (W New4.tab (by simp only [site, List.mem_cons, List.mem_append, true_or, or_true])) (W := 0) (Nat.le_of_ble_eq_true rfl) (Nat.le_of_ble_eq_true rfl) (Nat.le_refl _) (by show 0 + A.slots.size ≤ A.slots.size; omega) (g := (mkF m 6 #[.val (.ref a), .val (.ref b)] [.null, .int (Int32.ofNat A.slots.size), .int (Int32.ofNat 0), .ref b, .ref a])) rfl (by rw [hml]; rfl) c2 (argsL := [.ref b, .int (Int32.ofNat 0), .int (Int32.ofNat A.slots.size), .null]) (rest := []) rfl rfl (by show 2 * 0 + 0 ≤ _; decide) (hb hbytes d6) (⟨rfl, hB.mv X0.warmed.alike hh0, f1.al X0.warmed.alike, f2.al X0.warmed.alike, hA.mv X0.warmed.alike hh0, s1.there X0.warmed.alike hh0, hz, l0, by omega, l2, fun i hi => by rw [Nat.zero_add]; exact hp i hi⟩)
  have e0 := Got.mv _ s₁ s _ _ hh0.symm (Vm.Alike.refl _) rfl E3
  obtain rfl := e0.1
  have c4 : Steps p.tables e below (s₁.setTop (entryFrame m #[.ref a, .ref b] 2)) (T3.setTop (mkF m 9 #[.val (.ref a), .val (.ref b)] [])) := g3
  exact ⟨T3, none, _, _, _, X3, by simp, rfl, by omega, (fun _ => rfl), e0, fun fs hl => c4.trans (X3.returnOut hexec hret (hb hbytes d9) hl)⟩
theorem pays {l : Launch} {R : Room} {p : Program} {e : Env} {below : List Frame} {s : State} {sargs : Array Value} {len W : Nat} (a : Addr) (D : Cell) (fV fC : Field) (b : Addr) (A : Cell) (z : Int32) (htab : tab.before sargs s = true) (hfr : 4 ≤ R.frames) (hlo : W + 65 ≤ R.locals) :
    Back l R p e below s sargs yN len W (fun A₁ a₁ => A₁.cells + 1 ≤ R.cells ∧ A₁.slots + A.slots.size ≤ R.slots ∧ P a D fV fC b A z a₁ A₁.U) (fun A₁ _ v₁ B₁ => E a D fV fC A v₁ A₁.U B₁.U ∧ B₁.locs = A₁.locs ++ [⟨a, fC.slot⟩, ⟨a, fV.slot⟩] ∧ B₁.cells = A₁.cells + 1 ∧ B₁.slots = A₁.slots + A.slots.size) :=
  (law l a D fV fC b A z).pays htab hfr (by omega)
end New1
/-- the byte, read back as charAt reads it, is the char -/
theorem lo8_mask {x : Int32} (h0 : ¬ x < 0) (h1 : ¬ 255 < x) : lo8 x &&& 255 = x := by
  have t : ∀ k : Fin 256, lo8 (Int32.ofNat k.val) &&& 255 = Int32.ofNat k.val := by decide +kernel
  rw [Int32.lt_iff_toInt_lt] at h0 h1
  have e0 : (0 : Int32).toInt = 0 := rfl
  have e1 : (255 : Int32).toInt = 255 := rfl
  obtain ⟨k, hk⟩ : ∃ k : Nat, x.toInt = k := ⟨x.toInt.toNat, by omega⟩
  have hx : x = Int32.ofNat k := Int32.toInt_inj.mp (by rw [hk, Int32.toInt_ofNat_small (by omega)])
  rw [hx]
  exact t ⟨k, by omega⟩
end StrChars
namespace StrChars.Road
open Jvm Sem ClassFile Op Lib Jvm.Stand Jvm.Free Jvm.Free.XT
open Jvm.Lib.Cold (StaticIs)
abbrev ST : String := "java/lang/String"
/-- every table word that New1's law asks, flat -/
abbrev words : List Jvm.Cond := [.code New1.yN New1.yB 2 none, .initialized ST, .methodLink ST 27 New4.yN, .instanceMethod New4.yN,
  .code New4.yN New4.yB 6 none, .fieldLink ST 38 ST "COMPACT_STRINGS" "Z", .laysFinal ST ST "value" "[B", .fieldLink ST 9 ST "value" "[B", .laysFinal ST ST "coder" "B", .fieldLink ST 15 ST "coder" "B",
  .methodLink ST 1 Lib.objectInit, .instanceMethod Lib.objectInit, .code Lib.objectInit ⟨#[0xb1]⟩ 1 none, .methodLink ST 177 Cmp3.yN, .static Cmp3.yN, .methodLink ST 47 CodL.yN, .static CodL.yN,
  .code Cmp3.yN Cmp3.yB 6 (some (.array .byte)), .initialized U16, .arrayClass .byte, .methodLink U16 115 Cmp5.yN, .static Cmp5.yN, .code Cmp5.yN Cmp5.yB 7 (some .int), .code CodL.yN CodL.yB 2 (some .byte)]
theorem tab_of {a : Array Value} {s : State} (h : ∀ w ∈ words, w.before a s = true) : New1.tab.before a s = true := by
  have h5 : Cmp5.tab.before a s = true := unparts (wk h (.code Cmp5.yN Cmp5.yB 7 (some .int))) (wks h (.initialized Cmp5.yN.cls :: Cmp5.site))
  have hc : CodL.tab.before a s = true := unparts (wk h (.code CodL.yN CodL.yB 2 (some .byte))) (wks h (.initialized CodL.yN.cls :: CodL.site))
  have q5 : ∀ w ∈ Cmp5.tab :: words, w.before a s = true := fun w hw => (List.mem_cons.mp hw).elim (fun e => e ▸ h5) (h w)
  have h3 : Cmp3.tab.before a s = true := unparts (wk q5 (.code Cmp3.yN Cmp3.yB 6 (some (.array .byte)))) (wks q5 (.initialized Cmp3.yN.cls :: Cmp3.site))
  have q3 : ∀ w ∈ Cmp3.tab :: CodL.tab :: words, w.before a s = true := fun w hw => (List.mem_cons.mp hw).elim (fun e => e ▸ h3) fun hw => (List.mem_cons.mp hw).elim (fun e => e ▸ hc) (h w)
  have h4 : New4.tab.before a s = true := unparts (wk q3 (.code New4.yN New4.yB 6 none)) (wks q3 (.initialized New4.yN.cls :: New4.site))
  have q4 : ∀ w ∈ New4.tab :: words, w.before a s = true := fun w hw => (List.mem_cons.mp hw).elim (fun e => e ▸ h4) (h w)
  exact unparts (wk q4 (.code New1.yN New1.yB 2 none)) (wks q4 (.initialized New1.yN.cls :: New1.site))
/-- the words ride from the start Z to the walk's own state -/
theorem moved {Z s : State} {a0 args : Array Value} (hZ : Z.Warmed39 s.vm) (hw : ∀ d ∈ words, d.before a0 Z = true) : ∀ d ∈ words, d.before args s = true := fun d hd => by
  have q := hw d hd
  have t : ∀ d ∈ words, d = .arrayClass .byte ∨ (d.onTables && d.keepsFace) = true := by decide +kernel
  rcases t d hd with rfl | t
  · exact RoadKit.mvA hZ q
  · exact RoadKit.mv hZ q t
/-- WHAT COMES BACK, over the tables of the start Z: h the heap at the call, h' behind it -/
def Q (Z : State) (x : Addr) (A : Cell) (h : Heap) (v : Option Value) (h' : Heap) (L : List Loc) : Prop := v = none ∧ (∀ y ∈ L, y.base = x) ∧ RoadKit.Keep h h' [x] ∧ h'.size = h.size + 1 ∧ RoadKit.Exa Z h' x ST ∧ RoadKit.Fld Z h' x ST "value" "[B" (.ref h.size) ∧ RoadKit.Fld Z h' x ST "coder" "B" (.int 0) ∧
  (∃ V : Cell, RoadKit.Arr Z h' h.size V .byte ∧ V.vm = .none ∧ Z.vm.findClass "[B" = some V.cls ∧ V.slots.size = A.slots.size ∧ ∀ j, j < A.slots.size → V.slots[j]? = some (.int (lo8 (cv A j)))) ∧
  ∀ (O n d : String) (w : Value), RoadKit.Fld Z h x O n d w → RoadKit.slotOf Z O n d ≠ RoadKit.slotOf Z ST "value" "[B" → RoadKit.slotOf Z O n d ≠ RoadKit.slotOf Z ST "coder" "B" → RoadKit.Fld Z h' x O n d w
/-- **new String(chars) AT A CALL, IN THE ROAD'S FORM**: for specialBack behind newO: x the fresh String, b the char[] with the cell A -/
theorem back {p : Program} {l : Launch} {e : Env} {R : Room} {s : State} {args : Array Value} {below : List Frame} {len W : Nat} {Z : State} {a0 : Array Value} {h : Heap} (hZ : Z.Warmed39 s.vm) (hw : ∀ d ∈ words, d.before a0 Z = true) {kI : Nat} (wi : (Jvm.Cond.instantiable ST kI).before a0 Z = true)
    {x b : Addr} {A : Cell} {z : Int32} {v0 c0 : Value} (E : RoadKit.Exa Z h x ST) (V : RoadKit.Fld Z h x ST "value" "[B" v0) (C : RoadKit.Fld Z h x ST "coder" "B" c0) (K : RoadKit.Arr Z h b A .char) (hty : Typed .char A) (S : RoadKit.Sta Z h ST "COMPACT_STRINGS" "Z" (.int z)) (hz : ¬ z = 0)
    (l0 : 0 < A.slots.size) (l2 : A.slots.size ≤ 536870912) (hp : ∀ i, i < A.slots.size → ¬ 255 < cv A i) (hfr : 4 ≤ R.frames) (hlo : W + 65 ≤ R.locals) :
    Back l R p e below s args New1.yN len W (fun P a => a = #[.ref x, .ref b] ∧ P.U.heap = h ∧ P.cells + 1 ≤ R.cells ∧ P.slots + A.slots.size ≤ R.slots)
      (fun P _ v B => ∃ L, Q Z x A h v B.U.heap L ∧ B.locs = P.locs ++ L ∧ B.cells = P.cells + 1 ∧ B.slots = P.slots + A.slots.size) := by
  intro m meth c P g ig mk a X hg hsize hdg hW hn hp'
  obtain ⟨rfl, rfl, r1, r2⟩ := hp'
  have al : Z.vm.Alike P.U.vm := hZ.alike.trans X.warmed.alike
  obtain ⟨D, cfV, kV, iV, fV, hD, gV, stV, knV, obV, asV, slV⟩ := id V
  obtain ⟨D', cfC, kC, iC, fC, hD', gC, stC, -, -, asC, slC⟩ := id C
  cases hD.symm.trans hD'
  obtain ⟨D2, kD, e1, e2, e3, e4, e5⟩ := id E
  cases hD.symm.trans e1
  obtain ⟨c2, k2, i1, i2, i3, -⟩ := Cond.instantiable_spec wi
  cases e2.symm.trans i1
  cases e3.symm.trans i2
  obtain ⟨kU, u1, u2⟩ := al.2.2 _ _ e3
  have hB : Blank ST x D P.U := ⟨hD, ⟨knV, fun q hq => by rw [hq] at obV; cases obV⟩, by rw [al.findClass]; exact e2, kU, u1, by rw [u2]; exact i3, by rw [u2]; exact e5 i3⟩
  have F1 : Found ST "value" "[B" fV P.U := ⟨SBG.found_only al ⟨cfV, kV, iV, gV⟩, stV⟩
  have F2 : Found ST "coder" "B" fC P.U := ⟨SBG.found_only al ⟨cfC, kC, iC, gC⟩, stC⟩
  have hA : Ch b A P.U := ⟨⟨K.1, State.isArrayOf_alike al K.2.1, K.2.2, by omega⟩, hty⟩
  have hS : StaticIs P.U ST "COMPACT_STRINGS" "Z" (.int z) := by
    obtain ⟨cfS, iS, kS, fS, st, cS, t1, t2, t3, t4, t5, t6, t7⟩ := S
    exact StaticIs.there (s := { Z with heap := P.U.heap }) ⟨cfS, iS, kS, fS, st, cS, t1, t2, t3, t4, t5, (fun q => by rw [q] at t6; cases t6), t7⟩ al rfl
  obtain ⟨v, B, X', ⟨⟨hv, E', V', q1, q2, q3, q4, q5, q6, q7, q8, q9, q10, q11⟩, hl, hc, hs⟩, st⟩ := New1.pays x D fV fC b A z (tab_of (moved hZ hw)) hfr hlo m meth c P g ig mk _ X hg hsize hdg hW hn ⟨r1, r2, rfl, hB, F1, F2, hA, hS, hz, l0, l2, hp⟩
  have al' : Z.vm.Alike B.U.vm := hZ.alike.trans X'.warmed.alike
  have hsz : E'.slots.size = D.slots.size := by
    obtain ⟨-, -, -, kB, w1, w2, w3⟩ := q1
    obtain ⟨kB', y1, y2⟩ := al'.2.2 _ _ e3
    rw [q2.2.1] at w1
    cases w1.symm.trans y1
    rw [w3, e5 i3, y2]
  refine ⟨v, B, X', ⟨_, ⟨hv, ?_, ⟨by omega, fun y cy hy hn' => q10 y cy (by simpa using hn') hy, fun y cy hy => ?_⟩, q11, ⟨E', _, q1.1, by rw [q2.2.1]; exact e2, by rw [q2.2.1]; exact e3, by rw [q2.1]; exact obV, fun _ => by rw [hsz]; exact e5 i3⟩,
    ⟨E', cfV, kV, iV, fV, q1.1, gV, stV, by rw [q2.1]; exact knV, by rw [q2.1]; exact obV, by rw [q2.2.1]; exact asV, q3⟩, ⟨E', cfC, kC, iC, fC, q1.1, gC, stC, by rw [q2.1]; exact knV, by rw [q2.1]; exact obV, by rw [q2.2.1]; exact asC, q4⟩,
    ⟨V', ⟨q5.1, State.isArrayOf_alike al'.symm q5.2.1, q5.2.2.1⟩, q6, by rw [← al'.findClass]; exact q7, q8, fun j hj => by have := q9 j hj; rwa [Nat.zero_add] at this⟩, fun O n d w F n1 n2 => ?_⟩, hl, hc, hs⟩, st⟩
  · intro y hy
    simp only [List.mem_cons, List.not_mem_nil, or_false] at hy
    rcases hy with rfl | rfl <;> rfl
  · by_cases q : y = x
    · subst q
      cases hD.symm.trans hy
      exact ⟨E', q1.1, q2.2.1, q2.1, hsz⟩
    · exact ⟨cy, q10 y cy q hy, rfl, rfl, rfl⟩
  · obtain ⟨D3, cf, k, i, f, g1, g2, g3, g4, g5, g6, g7⟩ := F
    cases hD.symm.trans g1
    simp only [RoadKit.slotOf, g2, gV, gC, Option.map_some, Option.getD_some] at n1 n2
    exact ⟨E', cf, k, i, f, q1.1, g2, g3, by rw [q2.1]; exact g4, by rw [q2.1]; exact g5, by rw [q2.2.1]; exact g6, by rw [q2.2.2 f.slot (by simp [n1, n2])]; exact g7⟩
end StrChars.Road
namespace StrChars.Road
open Jvm Sem ClassFile Op Lib Jvm.Stand Jvm.Free Jvm.Free.XT
/-- WHAT COMES BACK, the byte[] as a list of values -/
def QA (Z : State) (x : Addr) (zn : Int32) (cs : List Int32) (h : Heap) (v : Option Value) (h' : Heap) (L : List Loc) : Prop := v = none ∧ (∀ y ∈ L, y.base = x) ∧ RoadKit.Keep h h' [x] ∧ h'.size = h.size + 1 ∧ RoadKit.Exa Z h' x ST ∧ RoadKit.Fld Z h' x ST "value" "[B" (.ref h.size) ∧ RoadKit.Fld Z h' x ST "coder" "B" (.int 0) ∧
  (∃ kb, Z.vm.findClass "[B" = some kb ∧ RoadKit.Arv Z h' h.size kb .byte zn (cs.map fun c => .int (lo8 c)) (.int 0)) ∧
  ∀ (O n d : String) (w : Value), RoadKit.Fld Z h x O n d w → RoadKit.slotOf Z O n d ≠ RoadKit.slotOf Z ST "value" "[B" → RoadKit.slotOf Z O n d ≠ RoadKit.slotOf Z ST "coder" "B" → RoadKit.Fld Z h' x O n d w
/-- **new String(chars) AT A CALL, THE ARRAYS AS LISTS**: the char[] at b holds cs, not empty, no char above 255 -/
theorem backArv {p : Program} {l : Launch} {e : Env} {R : Room} {s : State} {args : Array Value} {below : List Frame} {len W : Nat} {Z : State} {a0 : Array Value} {h : Heap} (hZ : Z.Warmed39 s.vm) (hw : ∀ d ∈ words, d.before a0 Z = true) {kI : Nat} (wi : (Jvm.Cond.instantiable ST kI).before a0 Z = true)
    {x b : Addr} {k : ClassId} {zn z : Int32} {cs : List Int32} {dv v0 c0 : Value} (E : RoadKit.Exa Z h x ST) (V : RoadKit.Fld Z h x ST "value" "[B" v0) (C : RoadKit.Fld Z h x ST "coder" "B" c0) (K : RoadKit.Arv Z h b k .char zn (cs.map Value.int) dv) (S : RoadKit.Sta Z h ST "COMPACT_STRINGS" "Z" (.int z)) (hz : ¬ z = 0)
    (hlen : zn.toNatClampNeg = cs.length) (h0 : 0 < cs.length) (hbig : cs.length ≤ 536870912) (hall : ∀ c ∈ cs, ¬ 255 < c) (hfr : 4 ≤ R.frames) (hlo : W + 65 ≤ R.locals) :
    Back l R p e below s args New1.yN len W (fun P a => a = #[.ref x, .ref b] ∧ P.U.heap = h ∧ P.cells + 1 ≤ R.cells ∧ P.slots + cs.length ≤ R.slots)
      (fun P _ v B => ∃ L, QA Z x zn cs h v B.U.heap L ∧ B.locs = P.locs ++ L ∧ B.cells = P.cells + 1 ∧ B.slots = P.slots + cs.length) := by
  obtain ⟨A, K1, K2, K3, K4, K5, K6⟩ := K
  have e : A.slots.size = cs.length := K3.trans hlen
  have hat : ∀ (i : Nat) (hi : i < cs.length), A.slots[i]? = some (.int cs[i]) := fun i hi => by rw [K5 i (by omega)]; simp [List.getD_eq_getElem?_getD, hi]
  have hcv : ∀ (i : Nat) (hi : i < cs.length), cv A i = cs[i] := fun i hi => by unfold cv; rw [hat i hi]
  have hty : Typed .char A := fun i v hv => by
    have hi : i < A.slots.size := (Array.getElem?_eq_some_iff.mp hv).1
    have q := K5 i hi
    rw [hv] at q
    rw [Option.some.inj q]
    exact K6 i hi
  refine Back.mono (back hZ hw wi E V C K1 hty S hz (by omega) (by omega) (fun i hi => by rw [hcv i (by omega)]; exact hall _ (List.getElem_mem _)) hfr hlo) (fun P a hp => ⟨hp.1, hp.2.1, hp.2.2.1, by rw [e]; exact hp.2.2.2⟩) (fun P a v B hp hq => ?_)
  obtain ⟨L, ⟨q1, q2, q3, q4, q5, q6, q7, ⟨V', v1, v2, v3, v4, v5⟩, q9⟩, hl, hc, hs⟩ := hq
  refine ⟨L, ⟨q1, q2, q3, q4, q5, q6, q7, ⟨V'.cls, v3, V', v1, rfl, by rw [v4, e, hlen], K4, fun i hi => ?_, fun i hi => ?_⟩, q9⟩, hl, hc, by rw [hs, e]⟩
  · have hi' : i < cs.length := by omega
    rw [v5 i (by omega), hcv i hi']; simp [List.getD_eq_getElem?_getD, hi']
  · have hi' : i < cs.length := by omega
    simp only [List.getD_eq_getElem?_getD, List.getElem?_map, List.getElem?_eq_getElem hi', Option.map_some, Option.getD_some]
    exact fits_lo8 _
end StrChars.Road
namespace StrChars.Road
open Jvm Sem ClassFile Op Lib Jvm.Stand Jvm.Free Jvm.Free.XT
/-- WHAT COMES BACK, in the writer's own shape -/
def QV (Z : State) (x : Addr) (N : Int32) (bs : List Int32) (h : Heap) (n0 : Nat) (v : Option Value) (h' : Heap) (L : List Loc) : Prop := v = none ∧ RoadKit.Fr n0 L ∧ RoadKit.Keep h h' [x] ∧ RoadKit.Exa Z h' x ST ∧ RoadKit.Fld Z h' x ST "coder" "B" (.int 0) ∧
  ∃ (t : Addr) (kb : ClassId), n0 ≤ t ∧ h.size ≤ t ∧ ¬ t = x ∧ RoadKit.Fld Z h' x ST "value" "[B" (.ref t) ∧ RoadKit.Arv Z h' t kb .byte N (bs.map Value.int) (.int 0)
/-- **new String(chars) AT A CALL, FOR THE WRITER**: a char[] of n known ints, each 0 to 255 -/
theorem backV {p : Program} {l : Launch} {e : Env} {R : Room} {s : State} {args : Array Value} {below : List Frame} {len W : Nat} {Z : State} {a0 : Array Value} {h : Heap} (hZ : Z.Warmed39 s.vm) (hw : ∀ d ∈ words, d.before a0 Z = true) {kI : Nat} (wi : (Jvm.Cond.instantiable ST kI).before a0 Z = true)
    {x b : Addr} {kC : ClassId} {cs bs : List Int32} {d v0 c0 : Value} {z N : Int32} {n n0 : Nat} (hx0 : n0 ≤ x) (hh0 : n0 ≤ h.size) (E : RoadKit.Exa Z h x ST) (V : RoadKit.Fld Z h x ST "value" "[B" v0) (C : RoadKit.Fld Z h x ST "coder" "B" c0) (K : RoadKit.Arv Z h b kC .char N (cs.map Value.int) d) (S : RoadKit.Sta Z h ST "COMPACT_STRINGS" "Z" (.int z)) (hz : ¬ z = 0)
    (hn : cs.length = n) (hN : N = Int32.ofNat n) (l0 : 0 < n) (l2 : n ≤ 4000) (hp : ∀ c ∈ cs, ¬ c < 0 ∧ ¬ (255 : Int32) < c) (hb : bs = cs.map (fun c => c.toInt8.toInt32)) (hfr : 4 ≤ R.frames) (hlo : W + 65 ≤ R.locals) :
    Back l R p e below s args (⟨"java/lang/String", "<init>", "([C)V"⟩ : MethodName) len W (fun P a => a = #[.ref x, .ref b] ∧ P.U.heap = h ∧ P.cells + 1 ≤ R.cells ∧ P.slots + n ≤ R.slots)
      (fun P _ v B => ∃ L, QV Z x N bs h n0 v B.U.heap L ∧ B.locs = P.locs ++ L ∧ B.cells = P.cells + 1 ∧ B.slots = P.slots + n) := by
  subst hn hN hb
  refine Back.mono (backArv hZ hw wi E V C K S hz (n32 (by omega)) l0 (by omega) (fun c hc => (hp c hc).2) hfr hlo) (fun P a hp => hp) (fun P a v B hp hq => ?_)
  obtain ⟨L, ⟨q1, q2, q3, q4, q5, q6, q7, ⟨kb, v1, v2⟩, q9⟩, hl, hc, hs⟩ := hq
  exact ⟨L, ⟨q1, fun y hy => by rw [q2 y hy]; exact hx0, q3, q5, q7, h.size, kb, hh0, Nat.le_refl _, Nat.ne_of_gt E.lt, q6, by rw [List.map_map]; exact v2⟩, hl, hc, hs⟩
end StrChars.Road
namespace StrChars
open Jvm Sem ClassFile Op Lib Jvm.Stand Jvm.Free.XT Jvm.Free.ALB Jvm.Free.JM Jvm.Free
open Jvm.Lib.Cold (StaticIs)
def hi8 (x : Int32) : Int32 := lo8 (x >>> ((8 : Int32) &&& 31))
/-- what StringUTF16.getChar makes of two bytes -/
def pairCh (u v : Int32) : Int32 := (((u &&& 255) <<< ((0 : Int32) &&& 31)) ||| ((v &&& 255) <<< ((8 : Int32) &&& 31))).toUInt32.toUInt16.toUInt32.toInt32
theorem lo8_and (x : Int32) : (lo8 x &&& 255).toBitVec.toNat = x.toBitVec.toNat % 256 := by
  have h : (lo8 x).toBitVec = (x.toBitVec.signExtend 8).signExtend 32 := by rw [lo8, Int8.toBitVec_toInt32, Int32.toBitVec_toInt8]
  rw [Int32.toBitVec_and, BitVec.toNat_and, h]
  have e : ((x.toBitVec.signExtend 8).signExtend 32).toNat % 256 = x.toBitVec.toNat % 256 := by
    rw [BitVec.toNat_signExtend]
    have hlt := x.toBitVec.isLt
    simp only [BitVec.toNat_setWidth, BitVec.toNat_signExtend]
    split <;> split <;> omega
  rw [← e]
  exact Nat.and_two_pow_sub_one_eq_mod _ 8
theorem pair_says {c : Int32} (h0 : ¬ c < 0) (h1 : ¬ 65535 < c) : pairCh (lo8 c) (hi8 c) = c := by
  rw [Int32.lt_iff_toInt_lt] at h0 h1
  have e0 : (0 : Int32).toInt = 0 := rfl
  have e1 : (65535 : Int32).toInt = 65535 := rfl
  have hc : c.toInt = c.toBitVec.toNat := by
    have := c.toBitVec.isLt
    have e : c.toInt = c.toBitVec.toInt := rfl
    rw [e] at h0 h1
    rw [e]
    rw [BitVec.toInt_eq_toNat_cond] at h0 h1 ⊢
    split at h0 <;> split <;> omega
  have hn : c.toBitVec.toNat < 65536 := by omega
  have a1 := lo8_and c
  have a2 : (hi8 c &&& 255).toBitVec.toNat = c.toBitVec.toNat / 256 := by
    rw [hi8, lo8_and]
    have e : ((8 : Int32) &&& 31) = 8 := by decide
    rw [e, Int32.toBitVec_shiftRight]
    have e2 : ((8 : Int32).toBitVec.smod 32) = 8#32 := by decide
    rw [e2, BitVec.sshiftRight_eq', BitVec.toNat_sshiftRight_of_msb_false (by rw [BitVec.msb_eq_false_iff_two_mul_lt]; omega)]
    show c.toBitVec.toNat >>> 8 % 256 = _
    rw [Nat.shiftRight_eq_div_pow]
    omega
  unfold pairCh
  apply Int32.toBitVec_inj.mp
  apply BitVec.eq_of_toNat_eq
  have f0 : ((0 : Int32) &&& 31) = 0 := by decide
  have f8 : ((8 : Int32) &&& 31) = 8 := by decide
  rw [f0, f8]
  have g : (((lo8 c &&& 255) <<< (0 : Int32)) ||| ((hi8 c &&& 255) <<< (8 : Int32))).toBitVec.toNat = c.toBitVec.toNat := by
    rw [Int32.toBitVec_or, Int32.toBitVec_shiftLeft, Int32.toBitVec_shiftLeft]
    have s0 : ((0 : Int32).toBitVec.smod 32) = 0#32 := by decide
    have s8 : ((8 : Int32).toBitVec.smod 32) = 8#32 := by decide
    rw [s0, s8, BitVec.toNat_or]
    simp only [BitVec.shiftLeft_eq', BitVec.toNat_shiftLeft, a1, a2]
    show (c.toBitVec.toNat % 256) <<< 0 % 2 ^ 32 ||| (c.toBitVec.toNat / 256) <<< 8 % 2 ^ 32 = _
    rw [Nat.shiftLeft_zero, Nat.mod_eq_of_lt (show c.toBitVec.toNat % 256 < 2 ^ 32 by omega), Nat.mod_eq_of_lt (show (c.toBitVec.toNat / 256) <<< 8 < 2 ^ 32 by rw [Nat.shiftLeft_eq]; omega), Nat.or_comm, ← Nat.shiftLeft_add_eq_or_of_lt (by omega), Nat.shiftLeft_eq]
    omega
  show BitVec.toNat (((((lo8 c &&& 255) <<< (0 : Int32)) ||| ((hi8 c &&& 255) <<< (8 : Int32))).toBitVec.setWidth 16).setWidth 32) = _
  rw [BitVec.toNat_setWidth, BitVec.toNat_setWidth, g]
  omega
end StrChars
namespace StrChars
open Jvm Sem ClassFile Op Lib Jvm.Stand Jvm.Free.XT Jvm.Free.ALB Jvm.Free.JM Jvm.Free
open Jvm.Lib.Cold (StaticIs)
/-- the array's cell V codes the n chars f 0 .. f (n - 1) by the coder cd, as the JDK does: coder 1 just where some char is above 255 -/
def Cod (cd : Int32) (n : Nat) (f : Nat → Int32) (V : Cell) : Prop := (cd = 0 ∧ V.slots.size = n ∧ ∀ j, j < n → V.slots[j]? = some (.int (lo8 (f j))) ∧ ¬ 255 < f j) ∨ (cd = 1 ∧ V.slots.size = 2 * n ∧ (∀ j, j < n → V.slots[2 * j]? = some (.int (lo8 (f j))) ∧ V.slots[2 * j + 1]? = some (.int (hi8 (f j)))) ∧ ∃ j, j < n ∧ 255 < f j)
/-- **x is a String of the n chars f 0 .. f (n - 1)**, Latin-1 or UTF-16; its array at t has the cell V -/
def Txt (x t : Addr) (V : Cell) (cd : Int32) (n : Nat) (f : Nat → Int32) (U : State) : Prop := Exact "java/lang/String" x U ∧ Has x "java/lang/String" "value" "[B" (.ref t) U ∧ Has x "java/lang/String" "coder" "B" (.int cd) U ∧ XT.Arr .byte t V U ∧ Cod cd n f V ∧ ∀ j, j < n → ¬ f j < 0 ∧ ¬ 65535 < f j
theorem Txt.mv {x t : Addr} {V : Cell} {cd : Int32} {n : Nat} {f : Nat → Int32} {U U' : State} (h : Txt x t V cd n f U) (hal : U.vm.Alike U'.vm) (hh : U'.heap = U.heap) : Txt x t V cd n f U' := ⟨h.1.mv hal hh, h.2.1.mv hal hh, h.2.2.1.mv hal hh, h.2.2.2.1.mv hal hh, h.2.2.2.2⟩
end StrChars
namespace StrChars.Road
open Jvm Sem ClassFile Op Lib Jvm.Stand Jvm.Free Jvm.Free.XT
open Jvm.Lib.Cold (StaticIs)
theorem consq {a : Array Value} {s : State} {c : Jvm.Cond} {L : List Jvm.Cond} (h0 : c.before a s = true) (h : ∀ w ∈ L, w.before a s = true) : ∀ w ∈ c :: L, w.before a s = true := fun w hw => (List.mem_cons.mp hw).elim (fun e => e ▸ h0) (h w)
/-- the bytes of the chars cs, low before high -/
def wideBytes : List Int32 → List Value
  | [] => []
  | c :: cs => .int (lo8 c) :: .int (hi8 c) :: wideBytes cs
theorem wide_lo (d : Value) : ∀ (cs : List Int32) (j : Nat), j < cs.length → (wideBytes cs).getD (2 * j) d = .int (lo8 (cs.getD j 0))
  | [], j, h => absurd h (Nat.not_lt_zero j)
  | c :: cs, 0, _ => rfl
  | c :: cs, j + 1, h => by
    have q := wide_lo d cs j (by simpa using h)
    rw [show 2 * (j + 1) = 2 * j + 1 + 1 from by omega]
    simpa [wideBytes] using q
theorem wide_hi (d : Value) : ∀ (cs : List Int32) (j : Nat), j < cs.length → (wideBytes cs).getD (2 * j + 1) d = .int (hi8 (cs.getD j 0))
  | [], j, h => absurd h (Nat.not_lt_zero j)
  | c :: cs, 0, _ => rfl
  | c :: cs, j + 1, h => by
    have q := wide_hi d cs j (by simpa using h)
    rw [show 2 * (j + 1) + 1 = 2 * j + 1 + 1 + 1 from by omega]
    simpa [wideBytes] using q
theorem low_at (d : Value) (cs : List Int32) (j : Nat) (h : j < cs.length) : (cs.map fun c => Value.int (lo8 c)).getD j d = .int (lo8 (cs.getD j 0)) := by
  simp [List.getD_eq_getElem?_getD, h]
/-- an array of N2 bytes vs codes the chars cs by the coder cd -/
def CodA (cs : List Int32) (cd N2 : Int32) (vs : List Value) : Prop := (cd = 0 ∧ N2 = Int32.ofNat cs.length ∧ vs = (cs.map fun c => Value.int (lo8 c)) ∧ ∀ c ∈ cs, ¬ 255 < c) ∨ (cd = 1 ∧ N2 = Int32.ofNat (2 * cs.length) ∧ vs = wideBytes cs ∧ ∃ c ∈ cs, 255 < c)
theorem CodA.cod {cs : List Int32} {cd N2 : Int32} {vs : List Value} {V : Cell} (h : CodA cs cd N2 vs) (hn : 2 * cs.length < 2 ^ 31) (hs : V.slots.size = N2.toNatClampNeg) (hv : RoadKit.Has V vs (.int 0)) : Cod cd cs.length (fun j => cs.getD j 0) V := by
  rcases h with ⟨rfl, rfl, rfl, h⟩ | ⟨rfl, rfl, rfl, c, hc, hw⟩
  · rw [n32 (by omega)] at hs
    exact Or.inl ⟨rfl, hs, fun j hj => ⟨by rw [hv j (by omega), low_at _ _ _ hj], by
      have e : cs.getD j 0 = cs[j] := by simp [List.getD_eq_getElem?_getD, hj]
      show ¬ 255 < cs.getD j 0
      rw [e]; exact h _ (List.getElem_mem _)⟩⟩
  · rw [n32 (by omega)] at hs
    obtain ⟨j, hj, rfl⟩ := List.getElem_of_mem hc
    exact Or.inr ⟨rfl, hs, fun j hj => ⟨by rw [hv _ (by omega), wide_lo _ _ _ hj], by rw [hv _ (by omega), wide_hi _ _ _ hj]⟩, j, hj, by
      have e : cs.getD j 0 = cs[j] := by simp [List.getD_eq_getElem?_getD, hj]
      show 255 < cs.getD j 0
      rw [e]; exact hw⟩
/-- an object of exactly java/lang/String, its two fields found: as the laws ask it -/
theorem strObj {Z U : State} {a0 : Array Value} {kI : Nat} (wi : (Jvm.Cond.instantiable ST kI).before a0 Z = true) (al : Z.vm.Alike U.vm) {x : Addr} {v0 c0 : Value} (E : RoadKit.Exa Z U.heap x ST) (V : RoadKit.Fld Z U.heap x ST "value" "[B" v0) (C : RoadKit.Fld Z U.heap x ST "coder" "B" c0) :
    ∃ (D : Cell) (fV fC : Field), Blank ST x D U ∧ Found ST "value" "[B" fV U ∧ Found ST "coder" "B" fC U ∧ D.slots[fV.slot]? = some v0 ∧ D.slots[fC.slot]? = some c0 ∧ RoadKit.slotOf Z ST "value" "[B" = fV.slot ∧ RoadKit.slotOf Z ST "coder" "B" = fC.slot := by
  obtain ⟨D, cfV, kV, iV, fV, hD, gV, stV, knV, obV, asV, slV⟩ := V
  obtain ⟨D', cfC, kC, iC, fC, hD', gC, stC, -, -, asC, slC⟩ := C
  cases hD.symm.trans hD'
  obtain ⟨D2, kD, e1, e2, e3, e4, e5⟩ := E
  cases hD.symm.trans e1
  obtain ⟨c2, k2, i1, i2, i3, -⟩ := Cond.instantiable_spec wi
  cases e2.symm.trans i1
  cases e3.symm.trans i2
  obtain ⟨kU, u1, u2⟩ := al.2.2 _ _ e3
  exact ⟨D, fV, fC, ⟨hD, ⟨knV, fun q hq => by rw [hq] at obV; cases obV⟩, by rw [al.findClass]; exact e2, kU, u1, by rw [u2]; exact i3, by rw [u2]; exact e5 i3⟩, ⟨SBG.found_only al ⟨cfV, kV, iV, gV⟩, stV⟩, ⟨SBG.found_only al ⟨cfC, kC, iC, gC⟩, stC⟩, slV, slC, by simp [RoadKit.slotOf, gV], by simp [RoadKit.slotOf, gC]⟩
theorem sta_is {Z U : State} (al : Z.vm.Alike U.vm) {C n d : String} {v : Value} (S : RoadKit.Sta Z U.heap C n d v) : StaticIs U C n d v := by
  obtain ⟨cfS, iS, kS, fS, st, cS, t1, t2, t3, t4, t5, t6, t7⟩ := S
  exact StaticIs.there (s := { Z with heap := U.heap }) ⟨cfS, iS, kS, fS, st, cS, t1, t2, t3, t4, t5, (fun q => by rw [q] at t6; cases t6), t7⟩ al rfl
end StrChars.Road
namespace StrChars
open Jvm Sem ClassFile Op Lib Jvm.Stand Jvm.Free.XT Jvm.Free.ALB Jvm.Free.JM Jvm.Free
open Jvm.Lib.Cold (StaticIs)
/-- what place i of a byte[]'s cell holds -/
def yv (A : Cell) (i : Nat) : Int32 := match A.slots[i]? with | some (.int x) => x | _ => 0
theorem yv_get {a : Addr} {A : Cell} {U : State} (h : XT.Arr .byte a A U) (ht : Typed .byte A) {i : Nat} (hi : i < A.slots.size) : A.slots[i]? = some (.int (yv A i)) := by
  have e := Array.getElem?_eq_getElem hi
  have f := ht i _ e
  unfold yv; rw [e]
  generalize A.slots[i] = v at f
  cases v <;> simp [fits] at f ⊢
/-- the two arrays are equal, place for place -/
def EqC (A B : Cell) : Prop := A.slots.size = B.slots.size ∧ ∀ i, i < A.slots.size → yv A i = yv B i
/-- a boolean that says whether p -/
def Says01 (q : Prop) (r : Option Value) (s u : State) : Prop := ∃ v : Int32, r = some (.int v) ∧ u.heap = s.heap ∧ ((v = 1 ∧ q) ∨ (v = 0 ∧ ¬ q))
theorem Says01.mv {q : Prop} : ∀ r (U U' V V' : State), U'.heap = U.heap → V.vm.Alike V'.vm → V'.heap = V.heap → Says01 q r U V → Says01 q r U' V' :=
  fun r U U' V V' h1 _ h2 ⟨v, a, b, c⟩ => ⟨v, a, by rw [h1, h2]; exact b, c⟩
namespace LEq
def yN : MethodName := ⟨"java/lang/StringLatin1", "equals", "([B[B)Z"⟩
abbrev yB : ByteArray := jdk_43_method_13_code
theorem d0 : decode yB 0 = .ok (.aload_n 0, 1) := by decide +kernel
theorem d1 : decode yB 1 = .ok (.arraylength, 1) := by decide +kernel
theorem d2 : decode yB 2 = .ok (.aload_n 1, 1) := by decide +kernel
theorem d3 : decode yB 3 = .ok (.arraylength, 1) := by decide +kernel
theorem d4 : decode yB 4 = .ok (.if_icmp (.ne) 30, 3) := by decide +kernel
theorem d7 : decode yB 7 = .ok (.iconst 0, 1) := by decide +kernel
theorem d8 : decode yB 8 = .ok (.istore_n 2, 1) := by decide +kernel
theorem d9 : decode yB 9 = .ok (.iload_n 2, 1) := by decide +kernel
theorem d10 : decode yB 10 = .ok (.aload_n 0, 1) := by decide +kernel
theorem d11 : decode yB 11 = .ok (.arraylength, 1) := by decide +kernel
theorem d12 : decode yB 12 = .ok (.if_icmp (.ge) 20, 3) := by decide +kernel
theorem d15 : decode yB 15 = .ok (.aload_n 0, 1) := by decide +kernel
theorem d16 : decode yB 16 = .ok (.iload_n 2, 1) := by decide +kernel
theorem d17 : decode yB 17 = .ok (.baload, 1) := by decide +kernel
theorem d18 : decode yB 18 = .ok (.aload_n 1, 1) := by decide +kernel
theorem d19 : decode yB 19 = .ok (.iload_n 2, 1) := by decide +kernel
theorem d20 : decode yB 20 = .ok (.baload, 1) := by decide +kernel
theorem d21 : decode yB 21 = .ok (.if_icmp (.eq) 5, 3) := by decide +kernel
theorem d24 : decode yB 24 = .ok (.iconst 0, 1) := by decide +kernel
theorem d25 : decode yB 25 = .ok (.ireturn, 1) := by decide +kernel
theorem d26 : decode yB 26 = .ok (.iinc 2 1, 3) := by decide +kernel
theorem d29 : decode yB 29 = .ok (.goto (-20), 3) := by decide +kernel
theorem d32 : decode yB 32 = .ok (.iconst 1, 1) := by decide +kernel
theorem d33 : decode yB 33 = .ok (.ireturn, 1) := by decide +kernel
theorem d34 : decode yB 34 = .ok (.iconst 0, 1) := by decide +kernel
theorem d35 : decode yB 35 = .ok (.ireturn, 1) := by decide +kernel
def site : List Cond := []
def tab : Cond := tabOf yN yB 3 (some .boolean) site
def P (a : Addr) (A : Cell) (b : Addr) (B : Cell) (args : Array Value) (s : State) : Prop := args = #[.ref a, .ref b] ∧ XT.Arr .byte a A s ∧ Typed .byte A ∧ XT.Arr .byte b B s ∧ Typed .byte B
/-- whether two byte[] are equal, place for place -/
theorem law (l : Launch) (a : Addr) (A : Cell) (b : Addr) (B : Cell) : Law l yN 2 2 0 0 yB 3 (some .boolean) site (P a A b B) (Says01 (EqC A B)) [] 0 0 := by
  refine Law.of_walk (plainFor_of_name (by decide +kernel)) (by decide +kernel) (by decide +kernel) (by decide) (fun _ _ h => by rw [h.1]; rfl) (fun _ U U' hal hh h => ⟨h.1, h.2.1.mv hal hh, h.2.2.1, h.2.2.2.1.mv hal hh, h.2.2.2.2⟩) (fun r U U' V V' h1 hal h2 h => Says01.mv r U U' V V' h1 hal h2 h) ?_
  intro p e s m args below meth c s₁ X0 hexec hbytes hml hret hlk hnm hown hh0 W hP
  obtain ⟨rfl, hA, tA, hB, tB⟩ := hP
  have a31 := hA.2.2.2
  have b31 := hB.2.2.2
  have hA0 := hA.mv X0.warmed.alike hh0
  have hB0 := hB.mv X0.warmed.alike hh0
  have c1 : Steps p.tables e below (s₁.setTop (entryFrame m #[.ref a, .ref b] 3)) (s₁.setTop (mkF m 0 #[.val (.ref a), .val (.ref b), .unset] [])) := entry rfl
  have c2 : Steps p.tables e below (s₁.setTop (entryFrame m #[.ref a, .ref b] 3)) (s₁.setTop (mkF m 4 #[.val (.ref a), .val (.ref b), .unset] [.int (Int32.ofNat B.slots.size), .int (Int32.ofNat A.slots.size)])) := c1.trans (by
    refine XS.aloadN X0.here hexec rfl (hb hbytes d0) rfl rfl ?_
    refine X0.alen hexec hA0 rfl rfl (hb hbytes d1) ?_
    refine XS.aloadN X0.here hexec rfl (hb hbytes d2) rfl rfl ?_
    refine X0.alen hexec hB0 rfl rfl (hb hbytes d3) ?_
    exact Steps.refl _)
  by_cases hs : A.slots.size = B.slots.size
  · have c3 : Steps p.tables e below (s₁.setTop (entryFrame m #[.ref a, .ref b] 3)) (s₁.setTop (mkF m 9 #[.val (.ref a), .val (.ref b), .val (.int 0)] [])) := c2.trans (by
      refine XS.icmpNo X0.here hexec rfl (hb hbytes d4) rfl (ii_ne_f (by rw [hs])) ?_
      refine iconstV X0.here hexec rfl 0 (hb hbytes d7) (by decide) ?_
      refine XS.istoreN X0.here hexec rfl (hb hbytes d8) rfl rfl ?_
      exact Steps.refl _)
    have loop : ∀ (r i : Nat), i + r = A.slots.size → (∀ j, j < i → yv A j = yv B j) → Steps p.tables e below (s₁.setTop (entryFrame m #[.ref a, .ref b] 3)) (s₁.setTop (mkF m 9 #[.val (.ref a), .val (.ref b), .val (.int (Int32.ofNat i))] [])) → ∃ (pc : Nat) (Ls : Array Slot) (v : Int32), (pc = 25 ∨ pc = 33) ∧ ((v = 1 ∧ EqC A B) ∨ (v = 0 ∧ ¬ EqC A B)) ∧ Steps p.tables e below (s₁.setTop (entryFrame m #[.ref a, .ref b] 3)) (s₁.setTop (mkF m pc Ls [.int v])) := by
      intro r
      induction r with
      | zero =>
        intro i hi he cl
        exact ⟨33, _, 1, Or.inr rfl, Or.inl ⟨rfl, hs, fun j hj => he j (by omega)⟩, cl.trans (by
          refine XS.iloadN X0.here hexec rfl (hb hbytes d9) rfl ?_
          refine XS.aloadN X0.here hexec rfl (hb hbytes d10) rfl rfl ?_
          refine X0.alen hexec hA0 rfl rfl (hb hbytes d11) ?_
          refine XS.icmpYes X0.here hexec rfl (pc0 := 12) rfl (hb hbytes d12) rfl (ii_ge_t (nlt32 (by omega) (by omega))) (by decide) rfl ?_
          refine iconstV X0.here hexec rfl 1 (hb hbytes d32) (by decide) ?_
          exact Steps.refl _)⟩
      | succ r ih =>
        intro i hi he cl
        have c4 : Steps p.tables e below (s₁.setTop (entryFrame m #[.ref a, .ref b] 3)) (s₁.setTop (mkF m 21 #[.val (.ref a), .val (.ref b), .val (.int (Int32.ofNat i))] [.int (yv B i), .int (yv A i)])) := cl.trans (by
          refine XS.iloadN X0.here hexec rfl (hb hbytes d9) rfl ?_
          refine XS.aloadN X0.here hexec rfl (hb hbytes d10) rfl rfl ?_
          refine X0.alen hexec hA0 rfl rfl (hb hbytes d11) ?_
          refine XS.icmpNo X0.here hexec rfl (hb hbytes d12) rfl (ii_ge_f (lt32 (by omega) (by omega))) ?_
          refine XS.aloadN X0.here hexec rfl (hb hbytes d15) rfl rfl ?_
          refine XS.iloadN X0.here hexec rfl (hb hbytes d16) rfl ?_
          refine X0.aget hexec hA0 rfl (yv_get hA tA (i := i) (by omega)) rfl rfl (hb hbytes d17) ?_
          refine XS.aloadN X0.here hexec rfl (hb hbytes d18) rfl rfl ?_
          refine XS.iloadN X0.here hexec rfl (hb hbytes d19) rfl ?_
          refine X0.aget hexec hB0 rfl (yv_get hB tB (i := i) (by omega)) rfl rfl (hb hbytes d20) ?_
          exact Steps.refl _)
        by_cases hv : yv A i = yv B i
        · have c5 : Steps p.tables e below (s₁.setTop (entryFrame m #[.ref a, .ref b] 3)) (s₁.setTop (mkF m 9 #[.val (.ref a), .val (.ref b), .val (.int (Int32.ofNat i + 1))] [])) := c4.trans (by
            refine XS.icmpYes X0.here hexec rfl (pc0 := 21) rfl (hb hbytes d21) rfl (ii_eq_t hv) (by decide) rfl ?_
            refine iincV X0.here hexec rfl 1 (hb hbytes d26) (by decide) rfl rfl ?_
            refine XS.goto X0.here hexec rfl (pc0 := 29) rfl (hb hbytes d29) (by decide) rfl ?_
            exact Steps.refl _)
          rw [succ32] at c5
          exact ih (i + 1) (by omega) (fun j hj => by
            by_cases e : j = i
            · rw [e]; exact hv
            · exact he j (by omega)) c5
        · exact ⟨25, _, 0, Or.inl rfl, Or.inr ⟨rfl, fun q => hv (q.2 i (by omega))⟩, c4.trans (by
            refine XS.icmpNo X0.here hexec rfl (hb hbytes d21) rfl (ii_eq_f hv) ?_
            refine iconstV X0.here hexec rfl 0 (hb hbytes d24) (by decide) ?_
            exact Steps.refl _)⟩
    obtain ⟨pc, Ls, v, hpc, hv, cz⟩ := loop A.slots.size 0 (by omega) (fun j hj => absurd hj (Nat.not_lt_zero j)) c3
    have nv : narrow .boolean (.int v) = .int v := by rcases hv with ⟨rfl, -⟩ | ⟨rfl, -⟩ <;> rfl
    rcases hpc with rfl | rfl
    · exact ⟨s₁, some (.int v), _, _, _, X0, rfl, rfl, rfl, (fun h => by cases h), ⟨v, rfl, hh0, hv⟩, fun fs hl => cz.trans (X0.ireturnOut hexec hret nv (Or.inr (Or.inl rfl)) (hb hbytes d25) hl)⟩
    · exact ⟨s₁, some (.int v), _, _, _, X0, rfl, rfl, rfl, (fun h => by cases h), ⟨v, rfl, hh0, hv⟩, fun fs hl => cz.trans (X0.ireturnOut hexec hret nv (Or.inr (Or.inl rfl)) (hb hbytes d33) hl)⟩
  · have c3 : Steps p.tables e below (s₁.setTop (entryFrame m #[.ref a, .ref b] 3)) (s₁.setTop (mkF m 35 #[.val (.ref a), .val (.ref b), .unset] [.int 0])) := c2.trans (by
      refine XS.icmpYes X0.here hexec rfl (pc0 := 4) rfl (hb hbytes d4) rfl (ii_ne_t (ne32 a31 b31 hs)) (by decide) rfl ?_
      refine iconstV X0.here hexec rfl 0 (hb hbytes d34) (by decide) ?_
      exact Steps.refl _)
    exact ⟨s₁, some (.int 0), _, _, _, X0, rfl, rfl, rfl, (fun h => by cases h), ⟨0, rfl, hh0, Or.inr ⟨rfl, fun q => hs q.1⟩⟩, fun fs hl => c3.trans (X0.ireturnOut hexec hret rfl (Or.inr (Or.inl rfl)) (hb hbytes d35) hl)⟩
end LEq
theorem Cod.ty {cd : Int32} {n : Nat} {f : Nat → Int32} {V : Cell} (h : Cod cd n f V) : Typed .byte V := fun i v hv => by
  have hi : i < V.slots.size := (Array.getElem?_eq_some_iff.mp hv).1
  rcases h with ⟨-, k1, k2⟩ | ⟨-, k1, k2, -⟩
  · rw [(k2 i (by omega)).1] at hv; cases hv; exact fits_lo8 _
  · rcases Nat.mod_two_eq_zero_or_one i with e | e
    · obtain ⟨j, rfl⟩ : ∃ j, i = 2 * j := ⟨i / 2, by omega⟩
      rw [(k2 j (by omega)).1] at hv; cases hv; exact fits_lo8 _
    · obtain ⟨j, rfl⟩ : ∃ j, i = 2 * j + 1 := ⟨i / 2, by omega⟩
      rw [(k2 j (by omega)).2] at hv; cases hv; exact fits_lo8 _
/-- the same text -/
def SameT (n : Nat) (f : Nat → Int32) (k : Nat) (g : Nat → Int32) : Prop := n = k ∧ ∀ j, j < n → f j = g j
theorem lo8_inj {x y : Int32} (h0 : ¬ x < 0) (h1 : ¬ 255 < x) (k0 : ¬ y < 0) (k1 : ¬ 255 < y) (h : lo8 x = lo8 y) : x = y := by
  rw [← lo8_mask h0 h1, ← lo8_mask k0 k1, h]
/-- arrays coded by one coder are equal just where the texts are -/
theorem Cod.eqv {cd : Int32} {n k : Nat} {f g : Nat → Int32} {V V' : Cell} (h : Cod cd n f V) (h' : Cod cd k g V') (hf : ∀ j, j < n → ¬ f j < 0 ∧ ¬ 65535 < f j) (hg : ∀ j, j < k → ¬ g j < 0 ∧ ¬ 65535 < g j) : EqC V V' ↔ SameT n f k g := by
  have yvv : ∀ {W : Cell} {i : Nat} {x : Int32}, W.slots[i]? = some (.int x) → yv W i = x := fun q => by unfold yv; rw [q]
  rcases h with ⟨rfl, k1, k2⟩ | ⟨rfl, k1, k2, -⟩
  · rcases h' with ⟨-, m1, m2⟩ | ⟨e, -⟩
    · constructor
      · rintro ⟨e1, e2⟩
        refine ⟨by omega, fun j hj => ?_⟩
        have q := e2 j (by omega)
        rw [yvv (k2 j hj).1, yvv (m2 j (by omega)).1] at q
        exact lo8_inj (hf j hj).1 (k2 j hj).2 (hg j (by omega)).1 (m2 j (by omega)).2 q
      · rintro ⟨rfl, e2⟩
        refine ⟨by omega, fun j hj => ?_⟩
        rw [yvv (k2 j (by omega)).1, yvv (m2 j (by omega)).1, e2 j (by omega)]
    · exact absurd e (by decide)
  · rcases h' with ⟨e, -⟩ | ⟨-, m1, m2, -⟩
    · exact absurd e (by decide)
    · constructor
      · rintro ⟨e1, e2⟩
        refine ⟨by omega, fun j hj => ?_⟩
        have q1 := e2 (2 * j) (by omega)
        have q2 := e2 (2 * j + 1) (by omega)
        rw [yvv (k2 j hj).1, yvv (m2 j (by omega)).1] at q1
        rw [yvv (k2 j hj).2, yvv (m2 j (by omega)).2] at q2
        rw [← pair_says (hf j hj).1 (hf j hj).2, ← pair_says (hg j (by omega)).1 (hg j (by omega)).2, q1, q2]
      · rintro ⟨rfl, e2⟩
        refine ⟨by omega, fun i hi => ?_⟩
        rcases Nat.mod_two_eq_zero_or_one i with e | e
        · obtain ⟨j, rfl⟩ : ∃ j, i = 2 * j := ⟨i / 2, by omega⟩
          rw [yvv (k2 j (by omega)).1, yvv (m2 j (by omega)).1, e2 j (by omega)]
        · obtain ⟨j, rfl⟩ : ∃ j, i = 2 * j + 1 := ⟨i / 2, by omega⟩
          rw [yvv (k2 j (by omega)).2, yvv (m2 j (by omega)).2, e2 j (by omega)]
/-- two codings differ: so do the texts -/
theorem Cod.dif {cd cd' : Int32} {n k : Nat} {f g : Nat → Int32} {V V' : Cell} (h : Cod cd n f V) (h' : Cod cd' k g V') (hne : ¬ cd = cd') : ¬ SameT n f k g := by
  rintro ⟨rfl, e⟩
  rcases h with ⟨rfl, -, k2⟩ | ⟨rfl, -, -, j, hj, hw⟩
  · rcases h' with ⟨rfl, -⟩ | ⟨-, -, -, j, hj, hw⟩
    · exact hne rfl
    · exact (k2 j hj).2 (by rw [e j hj]; exact hw)
  · rcases h' with ⟨-, -, m2⟩ | ⟨rfl, -⟩
    · exact (m2 j hj).2 (by rw [← e j hj]; exact hw)
    · exact hne rfl
/-- an object of exactly C is an instance of C -/
theorem cinst {p : Program} {l : Launch} {e : Env} {R : Room} {s : State} {m : MethodId} {args : Array Value} {below : List Frame} {meth : Method} {c : Code} {T : State} {locs : List Loc} {cells slots : Nat} (X : Stand p l e R s m args below meth c T locs cells slots) (hexec : p.tables.exec = Jvm.exec) {own C : String} {index : Nat} (hown : s.vm.findClass own = some m.cls) (hlink : (Cond.classLink own index C).before args s = true) {a : Addr} (hE : Exact C a T)
    {g : JFrame} (hg : g.method = m) {rest : List Value} (hstack : g.stack = .ref a :: rest) (hdg : decode c.code g.pc = .ok (.instanceof index, 3)) :
    ∃ T', Stand p l e R s m args below meth c T' locs cells slots ∧ T'.heap = T.heap ∧ ∀ target, Steps p.tables e below (T'.setTop { g with pc := g.pc + 3, stack := .int 1 :: rest }) target → Steps p.tables e below (T.setTop g) target := by
  obtain ⟨cB, h1, D, h2, h3, h4⟩ := hE
  have h1' : s.vm.findClass C = some cB := by rw [← X.warmed.alike.findClass]; exact h1
  obtain ⟨vm', X', st⟩ := X.instanceofYes hexec hown hlink h2 h4 h1' (by rw [h3]; exact Jvm.Free.SB.assignable_self _ _) hg hstack hdg
  exact ⟨_, X', rfl, st⟩
theorem cself {p : Program} {l : Launch} {e : Env} {R : Room} {s : State} {m : MethodId} {args : Array Value} {below : List Frame} {meth : Method} {c : Code} {T : State} {locs : List Loc} {cells slots : Nat} (X : Stand p l e R s m args below meth c T locs cells slots) (hexec : p.tables.exec = Jvm.exec) {own C : String} {index : Nat} (hown : s.vm.findClass own = some m.cls) (hlink : (Cond.classLink own index C).before args s = true) {a : Addr} (hE : Exact C a T)
    {g : JFrame} (hg : g.method = m) {rest : List Value} (hstack : g.stack = .ref a :: rest) (hdg : decode c.code g.pc = .ok (.checkcast index, 3)) :
    ∃ T', Stand p l e R s m args below meth c T' locs cells slots ∧ T'.heap = T.heap ∧ ∀ target, Steps p.tables e below (T'.setTop { g with pc := g.pc + 3, stack := .ref a :: rest }) target → Steps p.tables e below (T.setTop g) target := by
  obtain ⟨cB, h1, D, h2, h3, h4⟩ := hE
  have h1' : s.vm.findClass C = some cB := by rw [← X.warmed.alike.findClass]; exact h1
  obtain ⟨vm', X', st⟩ := X.checkcastYes hexec hown hlink h2 h4 h1' (by rw [h3]; exact Jvm.Free.SB.assignable_self _ _) hg hstack hdg
  exact ⟨_, X', rfl, fun t h => st t (by rw [← hstack] at h; exact h)⟩
namespace SEq
def yN : MethodName := ⟨"java/lang/String", "equals", "(Ljava/lang/Object;)Z"⟩
abbrev yB : ByteArray := jdk_42_method_66_code
theorem d0 : decode yB 0 = .ok (.aload_n 0, 1) := by decide +kernel
theorem d1 : decode yB 1 = .ok (.aload_n 1, 1) := by decide +kernel
theorem d2 : decode yB 2 = .ok (.if_acmp (.ne) 5, 3) := by decide +kernel
theorem d5 : decode yB 5 = .ok (.iconst 1, 1) := by decide +kernel
theorem d6 : decode yB 6 = .ok (.ireturn, 1) := by decide +kernel
theorem d7 : decode yB 7 = .ok (.aload_n 1, 1) := by decide +kernel
theorem d8 : decode yB 8 = .ok (.instanceof 10, 3) := by decide +kernel
theorem d11 : decode yB 11 = .ok (.ifCond (.eq) 43, 3) := by decide +kernel
theorem d14 : decode yB 14 = .ok (.aload_n 1, 1) := by decide +kernel
theorem d15 : decode yB 15 = .ok (.checkcast 10, 3) := by decide +kernel
theorem d18 : decode yB 18 = .ok (.astore_n 2, 1) := by decide +kernel
theorem d19 : decode yB 19 = .ok (.getstatic 38, 3) := by decide +kernel
theorem d22 : decode yB 22 = .ok (.ifCond (.eq) 14, 3) := by decide +kernel
theorem d25 : decode yB 25 = .ok (.aload_n 0, 1) := by decide +kernel
theorem d26 : decode yB 26 = .ok (.getfield 15, 3) := by decide +kernel
theorem d29 : decode yB 29 = .ok (.aload_n 2, 1) := by decide +kernel
theorem d30 : decode yB 30 = .ok (.getfield 15, 3) := by decide +kernel
theorem d33 : decode yB 33 = .ok (.if_icmp (.ne) 21, 3) := by decide +kernel
theorem d36 : decode yB 36 = .ok (.aload_n 0, 1) := by decide +kernel
theorem d37 : decode yB 37 = .ok (.getfield 9, 3) := by decide +kernel
theorem d40 : decode yB 40 = .ok (.aload_n 2, 1) := by decide +kernel
theorem d41 : decode yB 41 = .ok (.getfield 9, 3) := by decide +kernel
theorem d44 : decode yB 44 = .ok (.invokestatic 541, 3) := by decide +kernel
theorem d47 : decode yB 47 = .ok (.ifCond (.eq) 7, 3) := by decide +kernel
theorem d50 : decode yB 50 = .ok (.iconst 1, 1) := by decide +kernel
theorem d51 : decode yB 51 = .ok (.goto 4, 3) := by decide +kernel
theorem d54 : decode yB 54 = .ok (.iconst 0, 1) := by decide +kernel
theorem d55 : decode yB 55 = .ok (.ireturn, 1) := by decide +kernel
def site : List Cond := [.classLink "java/lang/String" 10 "java/lang/String", .fieldLink "java/lang/String" 38 "java/lang/String" "COMPACT_STRINGS" "Z", .fieldLink "java/lang/String" 15 "java/lang/String" "coder" "B", .fieldLink "java/lang/String" 9 "java/lang/String" "value" "[B", LEq.tab] ++ staticW "java/lang/String" 541 LEq.yN
def tab : Cond := tabOf yN yB 3 (some .boolean) site
def P (x t : Addr) (V : Cell) (cd : Int32) (n : Nat) (f : Nat → Int32) (y t' : Addr) (V' : Cell) (cd' : Int32) (k : Nat) (g : Nat → Int32) (z : Int32) (args : Array Value) (s : State) : Prop := args = #[.ref x, .ref y] ∧ Txt x t V cd n f s ∧ Txt y t' V' cd' k g s ∧ StaticIs s "java/lang/String" "COMPACT_STRINGS" "Z" (.int z) ∧ ¬ z = 0
/-- equals(Object) of two Strings: whether the texts are the same -/
theorem law (l : Launch) (x t : Addr) (V : Cell) (cd : Int32) (n : Nat) (f : Nat → Int32) (y t' : Addr) (V' : Cell) (cd' : Int32) (k : Nat) (g : Nat → Int32) (z : Int32) : Law l yN 2 1 1 14 yB 3 (some .boolean) site (P x t V cd n f y t' V' cd' k g z) (Says01 (SameT n f k g)) [] 0 0 := by
  refine Law.of_walk (plainFor_of_name (by decide +kernel)) (by decide +kernel) (by decide +kernel) (by decide) (fun _ _ h => by rw [h.1]; rfl) (fun _ U U' hal hh h => ⟨h.1, h.2.1.mv hal hh, h.2.2.1.mv hal hh, h.2.2.2.1.there hal hh, h.2.2.2.2⟩) (fun r U U' V V' h1 hal h2 h => Says01.mv r U U' V V' h1 hal h2 h) ?_
  intro p e s m args below meth c s₁ X0 hexec hbytes hml hret hlk hnm hown hh0 W hP
  obtain ⟨rfl, hx, hy, s1, hz⟩ := hP
  have c1 : Steps p.tables e below (s₁.setTop (entryFrame m #[.ref x, .ref y] 3)) (s₁.setTop (mkF m 2 #[.val (.ref x), .val (.ref y), .unset] [.ref y, .ref x])) := Steps.trans (entry rfl) (by
    show Steps p.tables e below (s₁.setTop (mkF m 0 #[.val (.ref x), .val (.ref y), .unset] [])) _
    refine XS.aloadN X0.here hexec rfl (hb hbytes d0) rfl rfl ?_
    refine XS.aloadN X0.here hexec rfl (hb hbytes d1) rfl rfl ?_
    exact Steps.refl _)
  by_cases hxy : x = y
  · have c2 : Steps p.tables e below (s₁.setTop (entryFrame m #[.ref x, .ref y] 3)) (s₁.setTop (mkF m 6 #[.val (.ref x), .val (.ref y), .unset] [.int 1])) := c1.trans (by
      refine acmpNo X0.here hexec rfl (hb hbytes d2) rfl rfl rfl (by simp [acmp, hxy]) ?_
      refine iconstV X0.here hexec rfl 1 (hb hbytes d5) (by decide) ?_
      exact Steps.refl _)
    subst hxy
    have ec : cd = cd' := by
      obtain ⟨D, fd, a1, a2, a3⟩ := hx.2.2.1
      obtain ⟨D', fd', b1, b2, b3⟩ := hy.2.2.1
      cases a1.symm.trans b1
      obtain ⟨q1, q2, q3, q4⟩ := a2.1
      obtain ⟨r1, r2, r3, r4⟩ := b2.1
      cases q4.symm.trans r4
      cases a3.symm.trans b3; rfl
    have et : t = t' := by
      obtain ⟨D, fd, a1, a2, a3⟩ := hx.2.1
      obtain ⟨D', fd', b1, b2, b3⟩ := hy.2.1
      cases a1.symm.trans b1
      obtain ⟨q1, q2, q3, q4⟩ := a2.1
      obtain ⟨r1, r2, r3, r4⟩ := b2.1
      cases q4.symm.trans r4
      cases a3.symm.trans b3; rfl
    subst ec et
    have ev : V = V' := by cases hx.2.2.2.1.1.symm.trans hy.2.2.2.1.1; rfl
    subst ev
    have hs : SameT n f k g := (Cod.eqv hx.2.2.2.2.1 hy.2.2.2.2.1 hx.2.2.2.2.2 hy.2.2.2.2.2).mp ⟨rfl, fun _ _ => rfl⟩
    exact ⟨s₁, some (.int 1), _, _, _, X0, rfl, rfl, rfl, (fun h => by cases h), ⟨1, rfl, hh0, Or.inl ⟨rfl, hs⟩⟩, fun fs hl => c2.trans (X0.ireturnOut hexec hret rfl (Or.inr (Or.inl rfl)) (hb hbytes d6) hl)⟩
  · have c2 : Steps p.tables e below (s₁.setTop (entryFrame m #[.ref x, .ref y] 3)) (s₁.setTop (mkF m 8 #[.val (.ref x), .val (.ref y), .unset] [.ref y])) := c1.trans (by
      refine acmpYes X0.here hexec rfl (pc0 := 2) rfl (hb hbytes d2) rfl rfl rfl (by simp [acmp, hxy]) (by decide) rfl ?_
      refine XS.aloadN X0.here hexec rfl (hb hbytes d7) rfl rfl ?_
      exact Steps.refl _)
    obtain ⟨T3, X3, q3, st3⟩ := cinst X0 hexec hown (wk W (.classLink "java/lang/String" 10 "java/lang/String")) (hy.mv X0.warmed.alike hh0).1 (g := (mkF m 8 #[.val (.ref x), .val (.ref y), .unset] [.ref y])) rfl (rest := []) rfl (hb hbytes d8)
    have hh3 := q3.trans hh0
    have c4 : Steps p.tables e below (s₁.setTop (entryFrame m #[.ref x, .ref y] 3)) (T3.setTop (mkF m 15 #[.val (.ref x), .val (.ref y), .unset] [.ref y])) := (c2.trans (st3 _ (Steps.refl _))).trans (by
      refine XS.ifNo X3.here hexec rfl (hb hbytes d11) rfl (i0_eq_f (by decide)) ?_
      refine XS.aloadN X3.here hexec rfl (hb hbytes d14) rfl rfl ?_
      exact Steps.refl _)
    obtain ⟨T5, X5, q5, st5⟩ := cself X3 hexec hown (wk W (.classLink "java/lang/String" 10 "java/lang/String")) (hy.mv X3.warmed.alike hh3).1 (g := (mkF m 15 #[.val (.ref x), .val (.ref y), .unset] [.ref y])) rfl (rest := []) rfl (hb hbytes d15)
    have hh5 := q5.trans hh3
    have c6 : Steps p.tables e below (s₁.setTop (entryFrame m #[.ref x, .ref y] 3)) (T5.setTop (mkF m 19 #[.val (.ref x), .val (.ref y), .val (.ref y)] [])) := (c4.trans (st5 _ (Steps.refl _))).trans (by
      refine XS.astoreN X5.here hexec rfl (hb hbytes d18) rfl rfl rfl ?_
      exact Steps.refl _)
    obtain ⟨T7, X7, q7, st7⟩ := X5.sget hexec hown (wk W (.fieldLink "java/lang/String" 38 "java/lang/String" "COMPACT_STRINGS" "Z")) s1 (fun _ _ h => by rw [hh5]; exact h) (g := (mkF m 19 #[.val (.ref x), .val (.ref y), .val (.ref y)] [])) rfl (hb hbytes d19)
    have hh7 := q7.trans hh5
    have c8 : Steps p.tables e below (s₁.setTop (entryFrame m #[.ref x, .ref y] 3)) (T7.setTop (mkF m 26 #[.val (.ref x), .val (.ref y), .val (.ref y)] [.ref x])) := (c6.trans (st7 _ (Steps.refl _))).trans (by
      refine XS.ifNo X7.here hexec rfl (hb hbytes d22) rfl (i0_eq_f hz) ?_
      refine XS.aloadN X7.here hexec rfl (hb hbytes d25) rfl rfl ?_
      exact Steps.refl _)
    obtain ⟨T9, X9, q9, st9⟩ := X7.hget hexec hown (wk W (.fieldLink "java/lang/String" 15 "java/lang/String" "coder" "B")) (hx.mv X7.warmed.alike hh7).2.2.1 (g := (mkF m 26 #[.val (.ref x), .val (.ref y), .val (.ref y)] [.ref x])) rfl (rest := []) rfl (hb hbytes d26)
    have hh9 := q9.trans hh7
    have c10 : Steps p.tables e below (s₁.setTop (entryFrame m #[.ref x, .ref y] 3)) (T9.setTop (mkF m 30 #[.val (.ref x), .val (.ref y), .val (.ref y)] [.ref y, .int cd])) := (c8.trans (st9 _ (Steps.refl _))).trans (by
      refine XS.aloadN X9.here hexec rfl (hb hbytes d29) rfl rfl ?_
      exact Steps.refl _)
    obtain ⟨T11, X11, q11, st11⟩ := X9.hget hexec hown (wk W (.fieldLink "java/lang/String" 15 "java/lang/String" "coder" "B")) (hy.mv X9.warmed.alike hh9).2.2.1 (g := (mkF m 30 #[.val (.ref x), .val (.ref y), .val (.ref y)] [.ref y, .int cd])) rfl (rest := [.int cd]) rfl (hb hbytes d30)
    have hh11 := q11.trans hh9
    have c12 : Steps p.tables e below (s₁.setTop (entryFrame m #[.ref x, .ref y] 3)) (T11.setTop (mkF m 33 #[.val (.ref x), .val (.ref y), .val (.ref y)] [.int cd', .int cd])) := c10.trans (st11 _ (Steps.refl _))
    by_cases hcd : cd = cd'
    · subst hcd
      have c13 : Steps p.tables e below (s₁.setTop (entryFrame m #[.ref x, .ref y] 3)) (T11.setTop (mkF m 37 #[.val (.ref x), .val (.ref y), .val (.ref y)] [.ref x])) := c12.trans (by
        refine XS.icmpNo X11.here hexec rfl (hb hbytes d33) rfl (ii_ne_f rfl) ?_
        refine XS.aloadN X11.here hexec rfl (hb hbytes d36) rfl rfl ?_
        exact Steps.refl _)
      obtain ⟨T14, X14, q14, st14⟩ := X11.hget hexec hown (wk W (.fieldLink "java/lang/String" 9 "java/lang/String" "value" "[B")) (hx.mv X11.warmed.alike hh11).2.1 (g := (mkF m 37 #[.val (.ref x), .val (.ref y), .val (.ref y)] [.ref x])) rfl (rest := []) rfl (hb hbytes d37)
      have hh14 := q14.trans hh11
      have c15 : Steps p.tables e below (s₁.setTop (entryFrame m #[.ref x, .ref y] 3)) (T14.setTop (mkF m 41 #[.val (.ref x), .val (.ref y), .val (.ref y)] [.ref y, .ref t])) := (c13.trans (st14 _ (Steps.refl _))).trans (by
        refine XS.aloadN X14.here hexec rfl (hb hbytes d40) rfl rfl ?_
        exact Steps.refl _)
      obtain ⟨T16, X16, q16, st16⟩ := X14.hget hexec hown (wk W (.fieldLink "java/lang/String" 9 "java/lang/String" "value" "[B")) (hy.mv X14.warmed.alike hh14).2.1 (g := (mkF m 41 #[.val (.ref x), .val (.ref y), .val (.ref y)] [.ref y, .ref t])) rfl (rest := [.ref t]) rfl (hb hbytes d41)
      have hh16 := q16.trans hh14
      have c17 : Steps p.tables e below (s₁.setTop (entryFrame m #[.ref x, .ref y] 3)) (T16.setTop (mkF m 44 #[.val (.ref x), .val (.ref y), .val (.ref y)] [.ref t', .ref t])) := c15.trans (st16 _ (Steps.refl _))
      obtain ⟨v18, T18, X18, E18, g18⟩ := X16.callS hexec (LEq.law l t V t' V') hown (wks W (staticW "java/lang/String" 541 LEq.yN)) (wk W LEq.tab) (W := 0) (Nat.le_of_ble_eq_true rfl) (Nat.le_of_ble_eq_true rfl) (Nat.le_refl _) (Nat.le_refl _) (g := (mkF m 44 #[.val (.ref x), .val (.ref y), .val (.ref y)] [.ref t', .ref t])) rfl (by rw [hml]; rfl) c17 (argsL := [.ref t, .ref t']) (rest := []) rfl rfl (by show 2 * 0 + 0 ≤ _; decide) (hb hbytes d44) (⟨rfl, hx.2.2.2.1.mv X16.warmed.alike hh16, hx.2.2.2.2.1.ty, hy.2.2.2.1.mv X16.warmed.alike hh16, hy.2.2.2.2.1.ty⟩)
      obtain ⟨v, rfl, q18, hv⟩ := E18
      have iff := Cod.eqv hx.2.2.2.2.1 hy.2.2.2.2.1 hx.2.2.2.2.2 hy.2.2.2.2.2
      rcases hv with ⟨rfl, he⟩ | ⟨rfl, he⟩
      · have c19 : Steps p.tables e below (s₁.setTop (entryFrame m #[.ref x, .ref y] 3)) (T18.setTop (mkF m 55 #[.val (.ref x), .val (.ref y), .val (.ref y)] [.int 1])) := Steps.trans g18 (by
          refine XS.ifNo X18.here hexec rfl (hb hbytes d47) rfl (i0_eq_f (by decide)) ?_
          refine iconstV X18.here hexec rfl 1 (hb hbytes d50) (by decide) ?_
          refine XS.goto X18.here hexec rfl (pc0 := 51) rfl (hb hbytes d51) (by decide) rfl ?_
          exact Steps.refl _)
        exact ⟨T18, some (.int 1), _, _, _, X18, rfl, rfl, rfl, (fun h => by cases h), ⟨1, rfl, q18.trans hh16, Or.inl ⟨rfl, iff.mp he⟩⟩, fun fs hl => c19.trans (X18.ireturnOut hexec hret rfl (Or.inr (Or.inl rfl)) (hb hbytes d55) hl)⟩
      · have c19 : Steps p.tables e below (s₁.setTop (entryFrame m #[.ref x, .ref y] 3)) (T18.setTop (mkF m 55 #[.val (.ref x), .val (.ref y), .val (.ref y)] [.int 0])) := Steps.trans g18 (by
          refine XS.ifYes X18.here hexec rfl (pc0 := 47) rfl (hb hbytes d47) rfl (i0_eq_t rfl) (by decide) rfl ?_
          refine iconstV X18.here hexec rfl 0 (hb hbytes d54) (by decide) ?_
          exact Steps.refl _)
        exact ⟨T18, some (.int 0), _, _, _, X18, rfl, rfl, rfl, (fun h => by cases h), ⟨0, rfl, q18.trans hh16, Or.inr ⟨rfl, fun q => he (iff.mpr q)⟩⟩, fun fs hl => c19.trans (X18.ireturnOut hexec hret rfl (Or.inr (Or.inl rfl)) (hb hbytes d55) hl)⟩
    · have c13 : Steps p.tables e below (s₁.setTop (entryFrame m #[.ref x, .ref y] 3)) (T11.setTop (mkF m 55 #[.val (.ref x), .val (.ref y), .val (.ref y)] [.int 0])) := c12.trans (by
        refine XS.icmpYes X11.here hexec rfl (pc0 := 33) rfl (hb hbytes d33) rfl (ii_ne_t hcd) (by decide) rfl ?_
        refine iconstV X11.here hexec rfl 0 (hb hbytes d54) (by decide) ?_
        exact Steps.refl _)
      exact ⟨T11, some (.int 0), _, _, _, X11, rfl, rfl, rfl, (fun h => by cases h), ⟨0, rfl, hh11, Or.inr ⟨rfl, Cod.dif hx.2.2.2.2.1 hy.2.2.2.2.1 hcd⟩⟩, fun fs hl => c13.trans (X11.ireturnOut hexec hret rfl (Or.inr (Or.inl rfl)) (hb hbytes d55) hl)⟩
theorem pays {l : Launch} {R : Room} {p : Program} {e : Env} {below : List Frame} {s : State} {sargs : Array Value} {len W : Nat} (x t : Addr) (V : Cell) (cd : Int32) (n : Nat) (f : Nat → Int32) (y t' : Addr) (V' : Cell) (cd' : Int32) (k : Nat) (g : Nat → Int32) (z : Int32) (htab : tab.before sargs s = true) (hfr : 2 ≤ R.frames) (hlo : W + 28 ≤ R.locals) :
    Back l R p e below s sargs yN len W (fun A₁ a₁ => A₁.cells + 0 ≤ R.cells ∧ A₁.slots + 0 ≤ R.slots ∧ P x t V cd n f y t' V' cd' k g z a₁ A₁.U) (fun A₁ _ v₁ B₁ => Says01 (SameT n f k g) v₁ A₁.U B₁.U ∧ B₁.locs = A₁.locs ++ [] ∧ B₁.cells = A₁.cells + 0 ∧ B₁.slots = A₁.slots + 0) :=
  (law l x t V cd n f y t' V' cd' k g z).pays htab hfr (by omega)
end SEq
end StrChars
namespace StrChars.Road
open Jvm Sem ClassFile Op Lib Jvm.Stand Jvm.Free Jvm.Free.XT
open Jvm.Lib.Cold (StaticIs)
/-- the words of String.equals(Object) -/
abbrev wordsEq : List Jvm.Cond := [.code SEq.yN SEq.yB 3 (some .boolean), .initialized ST, .classLink ST 10 ST, .fieldLink ST 38 ST "COMPACT_STRINGS" "Z", .fieldLink ST 15 ST "coder" "B", .fieldLink ST 9 ST "value" "[B", .methodLink ST 541 LEq.yN, .static LEq.yN, .code LEq.yN LEq.yB 3 (some .boolean), .initialized "java/lang/StringLatin1"]
theorem tabEq_of {a : Array Value} {s : State} (h : ∀ w ∈ wordsEq, w.before a s = true) : SEq.tab.before a s = true := by
  have hl : LEq.tab.before a s = true := unparts (wk h (.code LEq.yN LEq.yB 3 (some .boolean))) (wks h (.initialized LEq.yN.cls :: LEq.site))
  have q := consq hl h
  exact unparts (wk q (.code SEq.yN SEq.yB 3 (some .boolean))) (wks q (.initialized SEq.yN.cls :: SEq.site))
theorem movedEq {Z s : State} {a0 args : Array Value} (hZ : Z.Warmed39 s.vm) (hw : ∀ d ∈ wordsEq, d.before a0 Z = true) : ∀ d ∈ wordsEq, d.before args s = true := fun d hd => by
  have t : ∀ d ∈ wordsEq, (d.onTables && d.keepsFace) = true := by decide +kernel
  exact RoadKit.mv hZ (hw d hd) (t d hd)
/-- the road's facts of a String, as the laws ask it -/
theorem txt_of {Z U : State} {a0 : Array Value} {kI : Nat} (wi : (Jvm.Cond.instantiable ST kI).before a0 Z = true) (al : Z.vm.Alike U.vm) {x t : Addr} {kb : ClassId} {cs : List Int32} {cd N2 : Int32} {vs : List Value} (E : RoadKit.Exa Z U.heap x ST) (V : RoadKit.Fld Z U.heap x ST "value" "[B" (.ref t)) (C : RoadKit.Fld Z U.heap x ST "coder" "B" (.int cd)) (K : RoadKit.Arv Z U.heap t kb .byte N2 vs (.int 0)) (hc : CodA cs cd N2 vs) (hb : ∀ c ∈ cs, ¬ c < 0 ∧ ¬ (65535 : Int32) < c) (l2 : cs.length ≤ 4000) :
    ∃ A, Txt x t A cd cs.length (fun j => cs.getD j 0) U := by
  obtain ⟨A, K1, K2, K3, K4, K5, K6⟩ := K
  have hcod := hc.cod (by omega) K3 K5
  obtain ⟨D, fV, fC, hB, F1, F2, g1, g2, -, -⟩ := strObj wi al E V C
  exact ⟨A, ⟨_, hB.2.2.1, D, hB.1, rfl, by cases q : D.vm <;> first | rfl | exact absurd q (hB.2.1.2 _)⟩, Has.of hB F1 g1, Has.of hB F2 g2, ⟨K1.1, State.isArrayOf_alike al K1.2.1, K1.2.2, by rcases hcod with ⟨-, q, -⟩ | ⟨-, q, -⟩ <;> omega⟩, hcod, fun j hj => by
    have e : cs.getD j 0 = cs[j] := by simp [List.getD_eq_getElem?_getD, hj]
    show ¬ cs.getD j 0 < 0 ∧ ¬ 65535 < cs.getD j 0
    rw [e]; exact hb _ (List.getElem_mem _)⟩
theorem same_list (cs ds : List Int32) : SameT cs.length (fun j => cs.getD j 0) ds.length (fun j => ds.getD j 0) ↔ cs = ds := by
  constructor
  · rintro ⟨e, q⟩
    refine List.ext_getElem e fun j h1 h2 => ?_
    have := q j h1
    simpa [List.getD_eq_getElem?_getD, h1, h2] using this
  · rintro rfl
    exact ⟨rfl, fun _ _ => rfl⟩
/-- **equals(Object) OF TWO SUCH STRINGS**: 1 just where the chars are the same -/
theorem eqW {p : Program} {l : Launch} {e : Env} {R : Room} {s : State} {args : Array Value} {below : List Frame} {len W : Nat} {Z : State} {a0 : Array Value} {h : Heap} (hZ : Z.Warmed39 s.vm) (hw : ∀ d ∈ wordsEq, d.before a0 Z = true) {kI : Nat} (wi : (Jvm.Cond.instantiable ST kI).before a0 Z = true)
    {x t : Addr} {kb : ClassId} {cs : List Int32} {cd N2 : Int32} {vs : List Value} (E : RoadKit.Exa Z h x ST) (V : RoadKit.Fld Z h x ST "value" "[B" (.ref t)) (C : RoadKit.Fld Z h x ST "coder" "B" (.int cd)) (K : RoadKit.Arv Z h t kb .byte N2 vs (.int 0)) (hc : CodA cs cd N2 vs) (hb : ∀ c ∈ cs, ¬ c < 0 ∧ ¬ (65535 : Int32) < c) (l2 : cs.length ≤ 4000)
    {y t' : Addr} {kb' : ClassId} {ds : List Int32} {cd' N2' : Int32} {vs' : List Value} (E' : RoadKit.Exa Z h y ST) (V' : RoadKit.Fld Z h y ST "value" "[B" (.ref t')) (C' : RoadKit.Fld Z h y ST "coder" "B" (.int cd')) (K' : RoadKit.Arv Z h t' kb' .byte N2' vs' (.int 0)) (hc' : CodA ds cd' N2' vs') (hb' : ∀ c ∈ ds, ¬ c < 0 ∧ ¬ (65535 : Int32) < c) (l2' : ds.length ≤ 4000)
    {z : Int32} (S : RoadKit.Sta Z h ST "COMPACT_STRINGS" "Z" (.int z)) (hz : ¬ z = 0) (hfr : 2 ≤ R.frames) (hlo : W + 28 ≤ R.locals) :
    Back l R p e below s args (⟨"java/lang/String", "equals", "(Ljava/lang/Object;)Z"⟩ : MethodName) len W (fun P a => a = #[.ref x, .ref y] ∧ P.U.heap = h ∧ P.cells + 0 ≤ R.cells ∧ P.slots + 0 ≤ R.slots)
      (fun P _ v B => ∃ L, (((v = some (.int 1) ∧ cs = ds) ∨ (v = some (.int 0) ∧ ¬ cs = ds)) ∧ L = [] ∧ B.U.heap = h) ∧ B.locs = P.locs ++ L ∧ B.cells = P.cells + 0 ∧ B.slots = P.slots + 0) := by
  intro m meth c P g ig mk a X hg hsize hdg hW hn hp'
  obtain ⟨rfl, rfl, r1, r2⟩ := hp'
  have al : Z.vm.Alike P.U.vm := hZ.alike.trans X.warmed.alike
  obtain ⟨A, hx⟩ := txt_of wi al E V C K hc hb l2
  obtain ⟨A', hy⟩ := txt_of wi al E' V' C' K' hc' hb' l2'
  obtain ⟨v, B, X', ⟨⟨w, hv, hh, hq⟩, hl, hk, hs⟩, st⟩ := SEq.pays x t A cd cs.length (fun j => cs.getD j 0) y t' A' cd' ds.length (fun j => ds.getD j 0) z (tabEq_of (movedEq hZ hw)) hfr hlo m meth c P g ig mk _ X hg hsize hdg hW hn ⟨r1, r2, rfl, hx, hy, sta_is al S, hz⟩
  refine ⟨v, B, X', ⟨[], ⟨?_, rfl, hh⟩, hl, hk, hs⟩, st⟩
  rcases hq with ⟨rfl, q⟩ | ⟨rfl, q⟩
  · exact Or.inl ⟨hv, (same_list cs ds).mp q⟩
  · exact Or.inr ⟨hv, fun e => q ((same_list cs ds).mpr e)⟩
end StrChars.Road
namespace StrChars.Road
open Jvm Sem ClassFile Op Lib Jvm.Stand Jvm.Free Jvm.Free.XT
open Jvm.Lib.Cold (StaticIs)
/-- what backV says of its String, as the contracts of this text ask it: cs's low bytes, coder 0 -/
theorem codOf {cs : List Int32} {n : Nat} (hn : cs.length = n) (hb : ∀ c ∈ cs, ¬ 255 < c) : CodA cs 0 (Int32.ofNat n) ((cs.map lo8).map Value.int) := Or.inl ⟨rfl, by rw [hn], by simp [List.map_map, Function.comp_def], hb⟩
end StrChars.Road
end Jvm.Pilot.@@N@@

namespace Jvm.Pilot.@@N@@
open Jvm Jvm.ClassFile Sem Op Lib Jvm.Free Jvm.Stand Jvm.LawKit Jvm.RoadKit Bundle Jvm.Pilot.@@N@@.Jvm.D
def own_Go (p : Program) (e : Env) (below : List Frame) (Qf : Outcome → State → Prop) (A : State) : Prop := ∃ s₂ o, Steps p.tables e below A s₂ ∧ s₂.status = .running ∧ Ended s₂ below o ∧ Qf o s₂
theorem own_go {p : Program} {e : Env} {below : List Frame} {Qf : Outcome → State → Prop} {A B : State} (st : ∀ t, Steps p.tables e below B t → Steps p.tables e below A t) (h : own_Go p e below Qf B) : own_Go p e below Qf A := by
  obtain ⟨t, o, h1, h2⟩ := h
  exact ⟨t, o, st t h1, h2⟩
theorem own_fits {v : Value} {t : FieldType} (h : v.isRef = true) (ht : t.isReference = true) : fits t v = true := by
  cases t <;> first | (cases ht; done) | (cases v <;> simp_all [fits, Value.isRef])
theorem own_eqr {Z : State} {args : Array Value} {X F : Term} {idx : List Nat} {y : Addr} (hF : F.eval args Z none idx Z = some (.ref y)) (h : (Jvm.Cond.eq X F).value args Z none Z idx = some true) : X.eval args Z none idx Z = some (.ref y) := by
  obtain ⟨x, y', e1, e2, k1, k2⟩ := cmp_v (Or.inl h)
  cases hF.symm.trans e2
  have hx : x.isRef = true := k2.2
  exact e1.trans (congrArg some (gotT (eq_R e1 hF hx rfl) h))
theorem own_len {Z : State} {args : Array Value} {t : Term} {a : Addr} {c : Cell} {ty : FieldType} {n : Int32} (ev : t.eval args Z none [] Z = some (.ref a)) (A : Arr Z Z.heap a c ty) (h : (Jvm.Cond.eq (Term.length t) (Term.int n)).value args Z none Z [] = some true) : c.slots.size < 2 ^ 31 ∧ c.slots.size.toInt32 = n := by
  have l := eqv_i (y := n) rfl h
  have q := Jvm.Free.SBG.length_lt ev (A.fin (Vm.Alike.refl _)) l
  have e := len_f ev (A.fin (Vm.Alike.refl _)) q
  rw [e] at l
  exact ⟨q, Value.int.inj (Option.some.inj l)⟩
theorem own_el {Z : State} {args : Array Value} {t : Term} {a : Addr} {c : Cell} {ty : FieldType} {j : Int32} {v : Value} (ev : t.eval args Z none [] Z = some (.ref a)) (A : Arr Z Z.heap a c ty) (h : (Term.elem t (Term.int j)).eval args Z none [] Z = some v) : c.slots[j.toNatClampNeg]? = some v := (elem_in h ev rfl A.1).2
def own_Str (Z : State) (h : Heap) (x : Addr) (cs : List Int32) : Prop := ∃ (t : Addr) (kb : ClassId) (N : Int32) (vs : List Value), Exa Z h x "java/lang/String" ∧ Fld Z h x "java/lang/String" "value" "[B" (.ref t) ∧ Fld Z h x "java/lang/String" "coder" "B" (.int 0) ∧ Arv Z h t kb .byte N vs (.int 0) ∧ StrChars.Road.CodA cs 0 N vs ∧ (∀ c ∈ cs, ¬ c < 0 ∧ ¬ (255 : Int32) < c) ∧ cs.length ≤ 4000
theorem own_Str_ext {Z : State} {h h' : Heap} {x : Addr} {cs : List Int32} (E : Ext h h') (F : own_Str Z h x cs) : own_Str Z h' x cs := by
  obtain ⟨t, kb, N, vs, a1, a2, a3, a4, r⟩ := F
  exact ⟨t, kb, N, vs, a1.ext E, a2.ext E, a3.ext E, a4.ext E, r⟩
theorem own_Str_exa {Z : State} {h : Heap} {x : Addr} {cs : List Int32} (F : own_Str Z h x cs) : Exa Z h x "java/lang/String" := by
  obtain ⟨t, kb, N, vs, a1, -⟩ := F; exact a1
def own_Oth (Z : State) (h : Heap) (w : Addr) : Prop := ∃ (C : String) (n : Nat) (a0 : Array Value), Exa Z h w C ∧ C ≠ "java/lang/String" ∧ (Jvm.Cond.instantiable C n).before a0 Z = true
theorem own_Str_keep {Z : State} {h h' : Heap} {x : Addr} {cs : List Int32} {ws : List Addr} (K : Keep h h' ws) (W : ∀ w ∈ ws, own_Oth Z h w) (F : own_Str Z h x cs) : own_Str Z h' x cs := by
  obtain ⟨t, kb, N, vs, a1, a2, a3, a4, r⟩ := F
  have n1 : x ∉ ws := fun q => by
    obtain ⟨C, n, a0, e1, e2, e3⟩ := W x q
    exact (Exa.ne e1 a1 e2) rfl
  have n2 : t ∉ ws := fun q => by
    obtain ⟨C, n, a0, e1, e2, e3⟩ := W t q
    exact (Exa.neArv e1 a4 e3) rfl
  exact ⟨t, kb, N, vs, a1.keep K, a2.keep K n1, a3.keep K n1, a4.keep K n2, r⟩
/-- as own_Str_keep, where the places that were written are new Strings made since, or others, each unlike the String and its bytes -/
theorem own_Str_keepN {Z : State} {h h' : Heap} {x : Addr} {cs : List Int32} {ws : List Addr} {k : Nat} (K : Keep h h' ws) (F : own_Str Z h x cs) (N : ∀ w ∈ ws, h.size ≤ w) : own_Str Z h' x cs := by
  obtain ⟨t, kb, N', vs, a1, a2, a3, a4, r⟩ := F
  have n1 : x ∉ ws := fun q => absurd a1.lt (Nat.not_lt.mpr (N x q))
  have n2 : t ∉ ws := fun q => absurd a4.lt (Nat.not_lt.mpr (N t q))
  exact ⟨t, kb, N', vs, a1.keep K, a2.keep K n1, a3.keep K n1, a4.keep K n2, r⟩
def own_eqs (cs ds : List Int32) : Int32 := if cs = ds then 1 else 0
theorem own_wide {cs : List Int32} (h : ∀ c ∈ cs, ¬ c < 0 ∧ ¬ (255 : Int32) < c) : ∀ c ∈ cs, ¬ c < 0 ∧ ¬ (65535 : Int32) < c := fun c q => ⟨(h c q).1, fun z => (h c q).2 (by
  rw [Int32.lt_iff_toInt_lt] at z ⊢
  have o1 : (65535 : Int32).toInt = 65535 := by decide
  have o2 : (255 : Int32).toInt = 255 := by decide
  omega)⟩
theorem own_nar {c : Int32} (h : ¬ c < 0 ∧ ¬ (255 : Int32) < c) : nar .char c = c := by
  have q := c_i2c c
  have e : nar .char c = c.toUInt32.toUInt16.toUInt32.toInt32 := rfl
  rw [e]
  simp only [Int32.lt_iff_toInt_lt] at h
  have o0 : (0 : Int32).toInt = 0 := by decide
  have o2 : (255 : Int32).toInt = 255 := by decide
  exact Int32.toInt_inj.mp (by omega)
theorem own_i2c (x : Int32) : (x &&& (255 : Int32)).toUInt32.toUInt16.toUInt32.toInt32 = x &&& (255 : Int32) := i2c_mask x
theorem own_m255 (x : Int32) : ¬ (x &&& (255 : Int32)) < 0 ∧ ¬ (255 : Int32) < (x &&& (255 : Int32)) := by
  have a := c_mask x 255 8 (by decide) (by decide)
  have o0 : (0 : Int32).toInt = 0 := by decide
  have o2 : (255 : Int32).toInt = 255 := by decide
  simp only [Int32.lt_iff_toInt_lt]
  omega
theorem own_eqW {p : Program} {l : Launch} {e : Env} {R : Room} {s : State} {args : Array Value} {below : List Frame} {len W : Nat} {Z : State} {a0 : Array Value} {h : Heap} (hZ : Z.Warmed39 s.vm) (hw : ∀ d ∈ tables_1, d.before a0 Z = true) {x y : Addr} {cs ds : List Int32} (n0 : Nat)
    (F : own_Str Z h x cs) (F' : own_Str Z h y ds) {z : Int32} (S : Sta Z h "java/lang/String" "COMPACT_STRINGS" "Z" (.int z)) (hz : ¬ z = 0) (hfr : 2 ≤ R.frames) (hlo : W + 28 ≤ R.locals) :
    Back l R p e below s args (⟨"java/lang/String", "equals", "(Ljava/lang/Object;)Z"⟩ : MethodName) len W (fun P a => a = #[.ref x, .ref y] ∧ P.U.heap = h ∧ P.cells + 0 ≤ R.cells ∧ P.slots + 0 ≤ R.slots)
      (fun P _ v B => ∃ L, (v = some (.int (own_eqs cs ds)) ∧ Fr n0 L ∧ B.U.heap = h) ∧ B.locs = P.locs ++ L ∧ B.cells = P.cells + 0 ∧ B.slots = P.slots + 0) := by
  obtain ⟨t, kb, N, vs, a1, a2, a3, a4, a5, a6, a7⟩ := F
  obtain ⟨t', kb', N', vs', b1, b2, b3, b4, b5, b6, b7⟩ := F'
  refine Back.mono (StrChars.Road.eqW hZ (fun d hd => hw d ((by decide +kernel : ∀ d ∈ StrChars.Road.wordsEq, d ∈ tables_1) d hd)) (kI := 4) (hw _ (List.mem_of_getElem? (i := 5) rfl)) a1 a2 a3 a4 a5 (own_wide a6) a7 b1 b2 b3 b4 b5 (own_wide b6) b7 S hz hfr hlo) (fun _ _ q => q) (fun P a v B _ q => ?_)
  obtain ⟨L, ⟨q1, rfl, q3⟩, r⟩ := q
  refine ⟨[], ⟨?_, Fr.nil n0, q3⟩, r⟩
  rcases q1 with ⟨rfl, e⟩ | ⟨rfl, e⟩ <;> simp [own_eqs, e]
theorem own_newS {p : Program} {l : Launch} {e : Env} {R : Room} {s : State} {args : Array Value} {below : List Frame} {len W : Nat} {Z : State} {a0 : Array Value} {h : Heap} (hZ : Z.Warmed39 s.vm) (hw : ∀ d ∈ tables_1, d.before a0 Z = true) {x b : Addr} {kC : ClassId} {cs : List Int32} {vs : List Value} {d v0 c0 : Value} {N : Int32} (n n0 : Nat) (hx0 : n0 ≤ x) (hh0 : n0 ≤ h.size)
    (E : Exa Z h x "java/lang/String") (V : Fld Z h x "java/lang/String" "value" "[B" v0) (C : Fld Z h x "java/lang/String" "coder" "B" c0) (K : Arv Z h b kC .char N vs d) (hv : vs = cs.map Value.int) {z : Int32} (S : Sta Z h "java/lang/String" "COMPACT_STRINGS" "Z" (.int z)) (hz : ¬ z = 0)
    (hn : cs.length = n) (hN : N = Int32.ofNat n) (l0 : 0 < n) (l2 : n ≤ 4000) (hp : ∀ c ∈ cs, ¬ c < 0 ∧ ¬ (255 : Int32) < c) (hfr : 4 ≤ R.frames) (hlo : W + 65 ≤ R.locals) :
    Back l R p e below s args (⟨"java/lang/String", "<init>", "([C)V"⟩ : MethodName) len W (fun P a => a = #[.ref x, .ref b] ∧ P.U.heap = h ∧ P.cells + 1 ≤ R.cells ∧ P.slots + n ≤ R.slots)
      (fun P _ v B => ∃ L, (v = none ∧ Fr n0 L ∧ Keep h B.U.heap [x] ∧ own_Str Z B.U.heap x cs) ∧ B.locs = P.locs ++ L ∧ B.cells = P.cells + 1 ∧ B.slots = P.slots + n) := by
  subst hv
  refine Back.mono (StrChars.Road.backV hZ (fun d hd => hw d ((by decide +kernel : ∀ d ∈ StrChars.Road.words, d ∈ tables_1) d hd)) (kI := 4) (hw _ (List.mem_of_getElem? (i := 5) rfl)) (cs := cs) (bs := cs.map (fun c => c.toInt8.toInt32)) hx0 hh0 E V C K S hz hn hN l0 l2 hp rfl hfr hlo) (fun _ _ q => q) (fun P a v B _ q => ?_)
  obtain ⟨L, ⟨q1, q2, q3, q4, q5, t, kb, -, -, -, q6, q7⟩, r⟩ := q
  exact ⟨L, ⟨q1, q2, q3, t, kb, N, _, q4, q6, q5, q7, by rw [hN]; exact StrChars.Road.codOf hn (fun c hc => (hp c hc).2), hp, by omega⟩, r⟩
def own_kind (cs : List Int32) (a b c d : Addr) : Addr := if cs = [(97 : Int32), (108 : Int32), (108 : Int32), (111 : Int32), (119 : Int32)] then a else if cs = [(100 : Int32), (101 : Int32), (110 : Int32), (121 : Int32)] then b else if cs = [(97 : Int32), (108 : Int32), (108 : Int32)] then c else d
theorem own_eqs_ne {a b : List Int32} (h : ¬ own_eqs a b = 0) : a = b := by
  unfold own_eqs at h
  by_cases e : a = b
  · exact e
  · simp [e] at h
theorem own_eqs_eq {a b : List Int32} (h : own_eqs a b = 0) : ¬ a = b := fun e => by simp [own_eqs, e] at h
theorem own_last {cs : List Int32} (h : cs = [(97 : Int32), (108 : Int32), (108 : Int32), (111 : Int32), (119 : Int32)] ∨ cs = [(100 : Int32), (101 : Int32), (110 : Int32), (121 : Int32)] ∨ cs = [(97 : Int32), (108 : Int32), (108 : Int32)] ∨ cs = [(110 : Int32), (111 : Int32), (110 : Int32), (101 : Int32)]) (h1 : own_eqs [(97 : Int32), (108 : Int32), (108 : Int32), (111 : Int32), (119 : Int32)] cs = 0) (h2 : own_eqs [(100 : Int32), (101 : Int32), (110 : Int32), (121 : Int32)] cs = 0) (h3 : own_eqs [(97 : Int32), (108 : Int32), (108 : Int32)] cs = 0) : ¬ own_eqs [(110 : Int32), (111 : Int32), (110 : Int32), (101 : Int32)] cs = 0 := by
  rcases h with e | e | e | e
  · exact absurd e.symm (own_eqs_eq h1)
  · exact absurd e.symm (own_eqs_eq h2)
  · exact absurd e.symm (own_eqs_eq h3)
  · simp [own_eqs, e]
def own_G (Z : State) (wA : Addr) (wV : Addr) (wD : Addr) (wL : Addr) (wN : Addr) (sA : Addr) (tA : Addr) (sD : Addr) (tD : Addr) (sL : Addr) (tL : Addr) (sN : Addr) (tN : Addr) (k_wV : ClassId) (k_tA : ClassId) (k_tD : ClassId) (k_tL : ClassId) (k_tN : ClassId) (zC : Int32) (fm : Value) : Prop := Sta Z Z.heap "com/example/rolegraph/rolegraph/ColumnRule$Kind" "ALLOW" "Lcom/example/rolegraph/rolegraph/ColumnRule$Kind;" (.ref wA) ∧ Exa Z Z.heap wA "com/example/rolegraph/rolegraph/ColumnRule$Kind" ∧ Sta Z Z.heap "com/example/rolegraph/rolegraph/ColumnRule$Kind" "$VALUES" "[Lcom/example/rolegraph/rolegraph/ColumnRule$Kind;" (.ref wV) ∧ Exa Z Z.heap wV "[Lcom/example/rolegraph/rolegraph/ColumnRule$Kind;" ∧ Sta Z Z.heap "com/example/rolegraph/rolegraph/ColumnRule$Kind" "DENY" "Lcom/example/rolegraph/rolegraph/ColumnRule$Kind;" (.ref wD) ∧ Exa Z Z.heap wD "com/example/rolegraph/rolegraph/ColumnRule$Kind" ∧ Sta Z Z.heap "com/example/rolegraph/rolegraph/ColumnRule$Kind" "ALL" "Lcom/example/rolegraph/rolegraph/ColumnRule$Kind;" (.ref wL) ∧ Exa Z Z.heap wL "com/example/rolegraph/rolegraph/ColumnRule$Kind" ∧ Sta Z Z.heap "com/example/rolegraph/rolegraph/ColumnRule$Kind" "NONE" "Lcom/example/rolegraph/rolegraph/ColumnRule$Kind;" (.ref wN) ∧ Exa Z Z.heap wN "com/example/rolegraph/rolegraph/ColumnRule$Kind" ∧ Fld Z Z.heap wA "com/example/rolegraph/rolegraph/ColumnRule$Kind" "word" "Ljava/lang/String;" (.ref sA) ∧ Exa Z Z.heap sA "java/lang/String" ∧ Fld Z Z.heap sA "java/lang/String" "value" "[B" (.ref tA) ∧ Fld Z Z.heap wD "com/example/rolegraph/rolegraph/ColumnRule$Kind" "word" "Ljava/lang/String;" (.ref sD) ∧ Exa Z Z.heap sD "java/lang/String" ∧ Fld Z Z.heap sD "java/lang/String" "value" "[B" (.ref tD) ∧ Fld Z Z.heap wL "com/example/rolegraph/rolegraph/ColumnRule$Kind" "word" "Ljava/lang/String;" (.ref sL) ∧ Exa Z Z.heap sL "java/lang/String" ∧ Fld Z Z.heap sL "java/lang/String" "value" "[B" (.ref tL) ∧ Fld Z Z.heap wN "com/example/rolegraph/rolegraph/ColumnRule$Kind" "word" "Ljava/lang/String;" (.ref sN) ∧ Exa Z Z.heap sN "java/lang/String" ∧ Fld Z Z.heap sN "java/lang/String" "value" "[B" (.ref tN) ∧ Fld Z Z.heap sA "java/lang/String" "coder" "B" (.int (0 : Int32)) ∧ Fld Z Z.heap sD "java/lang/String" "coder" "B" (.int (0 : Int32)) ∧ Fld Z Z.heap sL "java/lang/String" "coder" "B" (.int (0 : Int32)) ∧ Fld Z Z.heap sN "java/lang/String" "coder" "B" (.int (0 : Int32)) ∧ Arv Z Z.heap wV k_wV (.object "com/example/rolegraph/rolegraph/ColumnRule$Kind") (4 : Int32) [(.ref wA), (.ref wD), (.ref wL), (.ref wN)] .null ∧ Arv Z Z.heap tA k_tA .byte (5 : Int32) [(.int (97 : Int32)), (.int (108 : Int32)), (.int (108 : Int32)), (.int (111 : Int32)), (.int (119 : Int32))] (.int 0) ∧ Arv Z Z.heap tD k_tD .byte (4 : Int32) [(.int (100 : Int32)), (.int (101 : Int32)), (.int (110 : Int32)), (.int (121 : Int32))] (.int 0) ∧ Arv Z Z.heap tL k_tL .byte (3 : Int32) [(.int (97 : Int32)), (.int (108 : Int32)), (.int (108 : Int32))] (.int 0) ∧ Arv Z Z.heap tN k_tN .byte (4 : Int32) [(.int (110 : Int32)), (.int (111 : Int32)), (.int (110 : Int32)), (.int (101 : Int32))] (.int 0) ∧ Sta Z Z.heap "java/lang/String" "COMPACT_STRINGS" "Z" (.int zC) ∧ ¬ zC = 0 ∧ Sta Z Z.heap "jdk/internal/util/Preconditions" "SIOOBE_FORMATTER" "Ljava/util/function/BiFunction;" fm ∧ fm.isRef = true ∧ own_Str Z Z.heap sA [(97 : Int32), (108 : Int32), (108 : Int32), (111 : Int32), (119 : Int32)] ∧ own_Str Z Z.heap sD [(100 : Int32), (101 : Int32), (110 : Int32), (121 : Int32)] ∧ own_Str Z Z.heap sL [(97 : Int32), (108 : Int32), (108 : Int32)] ∧ own_Str Z Z.heap sN [(110 : Int32), (111 : Int32), (110 : Int32), (101 : Int32)] ∧ True
theorem d8_0 : decode prog_4_method_1_code 0 = .ok (.getstatic 16, 3) := by decide +kernel
theorem d8_3 : decode prog_4_method_1_code 3 = .ok (.invokevirtual 20, 3) := by decide +kernel
theorem d8_6 : decode prog_4_method_1_code 6 = .ok (.checkcast 21, 3) := by decide +kernel
theorem d8_9 : decode prog_4_method_1_code 9 = .ok (.areturn, 1) := by decide +kernel
theorem pn_8 : plainName "com/example/rolegraph/rolegraph/ColumnRule$Kind" = true := by first | (simp [plainName, overriddenIn]; done) | decide +kernel
theorem ef_rm8 (m : MethodId)  : entryFrame m #[] 0 = mkF m 0 #[] [] := by first | (simp [entryFrame, mkF, argsToLocals, Value.category]; done) | rfl
def Q_rm8 (Z : State) (wA : Addr) (wV : Addr) (wD : Addr) (wL : Addr) (wN : Addr) (sA : Addr) (tA : Addr) (sD : Addr) (tD : Addr) (sL : Addr) (tL : Addr) (sN : Addr) (tN : Addr) (k_wV : ClassId) (k_tA : ClassId) (k_tD : ClassId) (k_tL : ClassId) (k_tN : ClassId) (zC : Int32) (fm : Value) (h0 : Heap) (n0 : Nat) (v : Option Value) (h : Heap) (L : List Loc) : Prop := ∃ (b : Addr), v = some (.ref b) ∧ Fr n0 L ∧ Keep h0 h [] ∧ h0.size ≤ b ∧ Arv Z h b k_wV (.object "com/example/rolegraph/rolegraph/ColumnRule$Kind") (4 : Int32) [(.ref wA), (.ref wD), (.ref wL), (.ref wN)] .null
set_option maxRecDepth 65536 in
set_option maxHeartbeats 40000000 in
theorem rm8 (l : Launch) (Z : State) (a0 : Array Value) (hw : ∀ d ∈ tables_1, d.before a0 Z = true) (ws : List Jvm.Cond) (wA : Addr) (wV : Addr) (wD : Addr) (wL : Addr) (wN : Addr) (sA : Addr) (tA : Addr) (sD : Addr) (tD : Addr) (sL : Addr) (tL : Addr) (sN : Addr) (tN : Addr) (k_wV : ClassId) (k_tA : ClassId) (k_tD : ClassId) (k_tL : ClassId) (k_tN : ClassId) (zC : Int32) (fm : Value) (G : own_G Z wA wV wD wL wN sA tA sD tD sL tL sN tN k_wV k_tA k_tD k_tL k_tN zC fm) (h0 : Heap) (n0 : Nat) (Z0 : n0 ≤ h0.size) (O0 : Old Z n0 h0) :
    MetFree l (⟨"com/example/rolegraph/rolegraph/ColumnRule$Kind", "values", "()[Lcom/example/rolegraph/rolegraph/ColumnRule$Kind;"⟩ : MethodName) (head1 (Jvm.Cond.code (⟨"com/example/rolegraph/rolegraph/ColumnRule$Kind", "values", "()[Lcom/example/rolegraph/rolegraph/ColumnRule$Kind;"⟩ : MethodName) prog_4_method_1_code 0 (some (.array (.object "com/example/rolegraph/rolegraph/ColumnRule$Kind"))) :: ws) ({ frames := 1, cells := 1, slots := 4, locals := 14 } : Room)) (fun a U => a = #[] ∧ Z.Warmed39 U.vm ∧ U.heap = h0) (fun _ _ _ _ _ => True) (fun _ U o U' => ∃ v L, o = .returned v ∧ Q_rm8 Z wA wV wD wL wN sA tA sD tD sL tL sN tN k_wV k_tA k_tD k_tL k_tN zC fm h0 n0 v U'.heap L ∧ FrameEnd U o U' L ({ frames := 1, cells := 1, slots := 4, locals := 14 } : Room).cells ({ frames := 1, cells := 1, slots := 4, locals := 14 } : Room).slots) := by
  refine MetFree.of_bodySF (plainFor_of_name pn_8) hisR ?_
  intro p e s m args below meth c s₁ Bd hml0 hP hK
  obtain ⟨rfl, hZ, hh⟩ := hP
  have hx := Bd.exec
  have hby := Bd.bytes
  have hml : c.maxLocals = 0 := hml0
  have hown : s.vm.findClass "com/example/rolegraph/rolegraph/ColumnRule$Kind" = some m.cls := findClass_of_methodNamed Bd.named
  have hnm := (name_of_methodNamed Bd.named Bd.method).1
  have X0 : Stand p l e ({ frames := 1, cells := 1, slots := 4, locals := 14 } : Room) s m #[] below meth c s₁ [] 0 0 := Stand.of_body Bd
  have e0 : s₁.heap = h0 := by rw [← hh, Bd.state]; rfl
  have N0 := Fr.nil n0
  have K0 := Keep.refl h0 ([] : List Addr)
  have G_ := G
  obtain ⟨S_ColumnRule_Kind_ALLOW, E_wA, S_ColumnRule_Kind_VALUES, E_wV, S_ColumnRule_Kind_DENY, E_wD, S_ColumnRule_Kind_ALL, E_wL, S_ColumnRule_Kind_NONE, E_wN, F_word_wA, E_sA, F_value_sA, F_word_wD, E_sD, F_value_sD, F_word_wL, E_sL, F_value_sL, F_word_wN, E_sN, F_value_sN, F_coder_sA, F_coder_sD, F_coder_sL, F_coder_sN, V_wV, V_tA, V_tD, V_tL, V_tN, S_String_COMPACT_STRINGS, hzC, S_Preconditions_SIOOBE_FORMATTER, hfm, Sx_sA, Sx_sD, Sx_sL, Sx_sN, G_end⟩ := G_
  change own_Go p e below _ _
  refine own_go (B := s₁.setTop (mkF m 0 #[] [])) (fun _ k => castTop (ef_rm8 m ) k) ?_
  obtain ⟨T1, X1, e1, st1⟩ := getS2 X0 hx hZ hown (host := "") (Or.inl (hw _ (List.mem_of_getElem? (i := 39) rfl))) Via.refl e0 (S_ColumnRule_Kind_VALUES.ext O0.2) (g := (mkF m 0 #[] [])) rfl (hb hby d8_0)
  refine own_go (B := T1.setTop (mkF m 3 #[] [(.ref wV)])) (st1) ?_
  obtain ⟨T2, h2, X2, e2, E2, V2, Ex2, st2⟩ := cloneH X1 hx hZ hown (hw _ (List.mem_of_getElem? (i := 41) rfl)) (hw _ (List.mem_of_getElem? (i := 42) rfl)) (hw _ (List.mem_of_getElem? (i := 46) rfl)) (hw _ (List.mem_of_getElem? (i := 44) rfl)) (hw _ (List.mem_of_getElem? (i := 45) rfl)) (hw _ (List.mem_of_getElem? (i := 47) rfl)) e1 (Arv.arh (V_wV.ext O0.2)) (E_wV.ext O0.2) (g := (mkF m 3 #[] [(.ref wV)])) rfl (by rw [hml]; rfl) rfl (hb hby d8_3) (by decide) (W := 0) (cap := 4) (by show 2 * 0 + _ ≤ _; exact Nat.le_of_eq rfl) (by decide) (by decide) (by decide) (by decide)
  obtain ⟨b2, g2⟩ : ∃ z, z = h0.size := ⟨_, rfl⟩
  rw [← g2] at V2 Ex2 st2
  have g_b2 : n0 ≤ b2 := Nat.le_trans (Nat.le_trans Z0 K0.1) (Nat.le_of_eq g2.symm)
  have sz_b2 : h0.size ≤ b2 := Nat.le_trans K0.1 (Nat.le_of_eq g2.symm)
  have O2 := O0.ext E2
  have K2' : Keep h0 h2 ([] : List Addr) := K0.ext E2
  replace V2 : Arv Z h2 b2 k_wV (.object "com/example/rolegraph/rolegraph/ColumnRule$Kind") (4 : Int32) [(.ref wA), (.ref wD), (.ref wL), (.ref wN)] .null := V2
  refine own_go (B := T2.setTop (mkF m 6 #[] [(.ref b2)])) (st2) ?_
  obtain ⟨T3, X3, e3, st3⟩ := castY X2 hx hZ hown (hw _ (List.mem_of_getElem? (i := 52) rfl)) e2 (Ins.self Ex2) (g := (mkF m 6 #[] [(.ref b2)])) rfl rfl (hb hby d8_6)
  refine own_go (B := T3.setTop (mkF m 9 #[] [(.ref b2)])) (st3) ?_
  obtain ⟨fs, hr, hrun, hended, hW, hsame⟩ := X3.leave (v := some (.ref b2)) (fun h => by rw [Bd.returns] at h; cases h)
  refine ⟨_, _, retOut X3 hx Bd.returns rfl (Or.inr (Or.inr (Or.inr (Or.inr ⟨rfl, rfl, rfl⟩)))) (hb hby d8_9) hr, hrun, hended, _, _, rfl, ?_, ⟨_, rfl⟩, hW, hsame.mono (by decide) (by decide)⟩
  show Q_rm8 Z wA wV wD wL wN sA tA sD tD sL tL sN tN k_wV k_tA k_tD k_tL k_tN zC fm h0 n0 _ T3.heap _
  rw [e3]
  exact ⟨b2, rfl, N0, K2', sz_b2, V2⟩
theorem pd_0 : parseMethodDescriptor "()[Lcom/example/rolegraph/rolegraph/ColumnRule$Kind;" = some ⟨[], some (.array (.object "com/example/rolegraph/rolegraph/ColumnRule$Kind"))⟩ := by decide +kernel
theorem pd_1 : parseMethodDescriptor "(Ljava/lang/Object;)Z" = some ⟨[(.object "java/lang/Object")], some .boolean⟩ := by decide +kernel
theorem d7_0 : decode prog_4_method_6_code 0 = .ok (.invokestatic 60, 3) := by decide +kernel
theorem d7_3 : decode prog_4_method_6_code 3 = .ok (.astore_n 1, 1) := by decide +kernel
theorem d7_4 : decode prog_4_method_6_code 4 = .ok (.aload_n 1, 1) := by decide +kernel
theorem d7_5 : decode prog_4_method_6_code 5 = .ok (.arraylength, 1) := by decide +kernel
theorem d7_6 : decode prog_4_method_6_code 6 = .ok (.istore_n 2, 1) := by decide +kernel
theorem d7_7 : decode prog_4_method_6_code 7 = .ok (.iconst 0, 1) := by decide +kernel
theorem d7_8 : decode prog_4_method_6_code 8 = .ok (.istore_n 3, 1) := by decide +kernel
theorem d7_9 : decode prog_4_method_6_code 9 = .ok (.iload_n 3, 1) := by decide +kernel
theorem d7_10 : decode prog_4_method_6_code 10 = .ok (.iload_n 2, 1) := by decide +kernel
theorem d7_11 : decode prog_4_method_6_code 11 = .ok (.if_icmp .ge 29, 3) := by decide +kernel
theorem d7_14 : decode prog_4_method_6_code 14 = .ok (.aload_n 1, 1) := by decide +kernel
theorem d7_15 : decode prog_4_method_6_code 15 = .ok (.iload_n 3, 1) := by decide +kernel
theorem d7_16 : decode prog_4_method_6_code 16 = .ok (.aaload, 1) := by decide +kernel
theorem d7_17 : decode prog_4_method_6_code 17 = .ok (.astore 4, 2) := by decide +kernel
theorem d7_19 : decode prog_4_method_6_code 19 = .ok (.aload 4, 2) := by decide +kernel
theorem d7_21 : decode prog_4_method_6_code 21 = .ok (.getfield 51, 3) := by decide +kernel
theorem d7_24 : decode prog_4_method_6_code 24 = .ok (.aload_n 0, 1) := by decide +kernel
theorem d7_25 : decode prog_4_method_6_code 25 = .ok (.invokevirtual 76, 3) := by decide +kernel
theorem d7_28 : decode prog_4_method_6_code 28 = .ok (.ifCond .eq 6, 3) := by decide +kernel
theorem d7_31 : decode prog_4_method_6_code 31 = .ok (.aload 4, 2) := by decide +kernel
theorem d7_33 : decode prog_4_method_6_code 33 = .ok (.areturn, 1) := by decide +kernel
theorem d7_34 : decode prog_4_method_6_code 34 = .ok (.iinc 3 1, 3) := by decide +kernel
theorem d7_37 : decode prog_4_method_6_code 37 = .ok (.goto (-28), 3) := by decide +kernel
theorem ef_rm7 (m : MethodId) (a1 : Addr) : entryFrame m #[(.ref a1)] 5 = mkF m 0 #[.val (.ref a1), .unset, .unset, .unset, .unset] [] := by first | (simp [entryFrame, mkF, argsToLocals, Value.category]; done) | rfl
def Q_rm7 (Z : State) (wA : Addr) (wV : Addr) (wD : Addr) (wL : Addr) (wN : Addr) (sA : Addr) (tA : Addr) (sD : Addr) (tD : Addr) (sL : Addr) (tL : Addr) (sN : Addr) (tN : Addr) (k_wV : ClassId) (k_tA : ClassId) (k_tD : ClassId) (k_tL : ClassId) (k_tN : ClassId) (zC : Int32) (fm : Value) (a1 : Addr) (cs : List Int32) (h0 : Heap) (n0 : Nat) (v : Option Value) (h : Heap) (L : List Loc) : Prop := v = some (.ref (own_kind cs wA wD wL wN)) ∧ Fr n0 L ∧ Keep h0 h []
set_option maxRecDepth 65536 in
set_option maxHeartbeats 40000000 in
theorem rm7 (l : Launch) (Z : State) (a0 : Array Value) (hw : ∀ d ∈ tables_1, d.before a0 Z = true) (ws : List Jvm.Cond) (wA : Addr) (wV : Addr) (wD : Addr) (wL : Addr) (wN : Addr) (sA : Addr) (tA : Addr) (sD : Addr) (tD : Addr) (sL : Addr) (tL : Addr) (sN : Addr) (tN : Addr) (k_wV : ClassId) (k_tA : ClassId) (k_tD : ClassId) (k_tL : ClassId) (k_tN : ClassId) (zC : Int32) (fm : Value) (G : own_G Z wA wV wD wL wN sA tA sD tD sL tL sN tN k_wV k_tA k_tD k_tL k_tN zC fm) (a1 : Addr) (cs : List Int32) (h0 : Heap) (n0 : Nat) (Z0 : n0 ≤ h0.size) (O0 : Old Z n0 h0) (Sa : own_Str Z h0 a1 cs) (hcs : cs = [(97 : Int32), (108 : Int32), (108 : Int32), (111 : Int32), (119 : Int32)] ∨ cs = [(100 : Int32), (101 : Int32), (110 : Int32), (121 : Int32)] ∨ cs = [(97 : Int32), (108 : Int32), (108 : Int32)] ∨ cs = [(110 : Int32), (111 : Int32), (110 : Int32), (101 : Int32)]) :
    MetFree l (⟨"com/example/rolegraph/rolegraph/ColumnRule$Kind", "of", "(Ljava/lang/String;)Lcom/example/rolegraph/rolegraph/ColumnRule$Kind;"⟩ : MethodName) (head1 (Jvm.Cond.code (⟨"com/example/rolegraph/rolegraph/ColumnRule$Kind", "of", "(Ljava/lang/String;)Lcom/example/rolegraph/rolegraph/ColumnRule$Kind;"⟩ : MethodName) prog_4_method_6_code 5 (some (.object "com/example/rolegraph/rolegraph/ColumnRule$Kind")) :: ws) ({ frames := 2, cells := 1, slots := 4, locals := 28 } : Room)) (fun a U => a = #[(.ref a1)] ∧ Z.Warmed39 U.vm ∧ U.heap = h0) (fun _ _ _ _ _ => True) (fun _ U o U' => ∃ v L, o = .returned v ∧ Q_rm7 Z wA wV wD wL wN sA tA sD tD sL tL sN tN k_wV k_tA k_tD k_tL k_tN zC fm a1 cs h0 n0 v U'.heap L ∧ FrameEnd U o U' L ({ frames := 2, cells := 1, slots := 4, locals := 28 } : Room).cells ({ frames := 2, cells := 1, slots := 4, locals := 28 } : Room).slots) := by
  refine MetFree.of_bodySF (plainFor_of_name pn_8) hisR ?_
  intro p e s m args below meth c s₁ Bd hml0 hP hK
  obtain ⟨rfl, hZ, hh⟩ := hP
  have hx := Bd.exec
  have hby := Bd.bytes
  have hml : c.maxLocals = 5 := hml0
  have hown : s.vm.findClass "com/example/rolegraph/rolegraph/ColumnRule$Kind" = some m.cls := findClass_of_methodNamed Bd.named
  have hnm := (name_of_methodNamed Bd.named Bd.method).1
  have X0 : Stand p l e ({ frames := 2, cells := 1, slots := 4, locals := 28 } : Room) s m #[(.ref a1)] below meth c s₁ [] 0 0 := Stand.of_body Bd
  have e0 : s₁.heap = h0 := by rw [← hh, Bd.state]; rfl
  have N0 := Fr.nil n0
  have K0 := Keep.refl h0 ([] : List Addr)
  have G_ := G
  obtain ⟨S_ColumnRule_Kind_ALLOW, E_wA, S_ColumnRule_Kind_VALUES, E_wV, S_ColumnRule_Kind_DENY, E_wD, S_ColumnRule_Kind_ALL, E_wL, S_ColumnRule_Kind_NONE, E_wN, F_word_wA, E_sA, F_value_sA, F_word_wD, E_sD, F_value_sD, F_word_wL, E_sL, F_value_sL, F_word_wN, E_sN, F_value_sN, F_coder_sA, F_coder_sD, F_coder_sL, F_coder_sN, V_wV, V_tA, V_tD, V_tL, V_tN, S_String_COMPACT_STRINGS, hzC, S_Preconditions_SIOOBE_FORMATTER, hfm, Sx_sA, Sx_sD, Sx_sL, Sx_sN, G_end⟩ := G_
  change own_Go p e below _ _
  refine own_go (B := s₁.setTop (mkF m 0 #[.val (.ref a1), .unset, .unset, .unset, .unset] [])) (fun _ k => castTop (ef_rm7 m a1) k) ?_
  obtain ⟨t1, kb1, Nb1, vs1, Es1, Fv1, Fc1, Vb1, cd1, rg1, ln1⟩ := Sa
  obtain ⟨_, _, ⟨T2, L2, k2, n2⟩, -, X2, ⟨Lc2, hQ2, l2, y2, z2⟩, st2⟩ := Jvm.LawKit.callS X0 hx (y := (⟨"com/example/rolegraph/rolegraph/ColumnRule$Kind", "values", "()[Lcom/example/rolegraph/rolegraph/ColumnRule$Kind;"⟩ : MethodName)) hown (mvT hZ (hw _ (List.mem_of_getElem? (i := 36) rfl))) (mvT hZ (hw _ (List.mem_of_getElem? (i := 37) rfl))) (mvT hZ (hw _ (List.mem_of_getElem? (i := 2) rfl))) (mvT hZ (hw _ (List.mem_of_getElem? (i := 38) rfl))) (by decide) (backOf (W := 0) (rm8 l Z a0 hw [] wA wV wD wL wN sA tA sD tD sL tL sN tN k_wV k_tA k_tD k_tL k_tN zC fm G  h0 n0 (Nat.le_trans Z0 K0.1) O0 ) hZ (hw _ (List.mem_of_getElem? (i := 38) rfl)) (hw _ (List.mem_of_getElem? (i := 2) rfl)) (by decide) (by decide)) (g := (mkF m 0 #[.val (.ref a1), .unset, .unset, .unset, .unset] [])) rfl (by rw [hml]; rfl) (argsL := []) (rest := []) (lenOf pd_0 rfl) rfl (by show 2 * 0 + _ ≤ _; exact Nat.le_of_eq rfl) (hb hby d7_0) (fun _ _ => ⟨rfl, e0, (by decide : 0 + 1 ≤ 1), (by decide : 0 + 4 ≤ 4)⟩)
  dsimp only [Pt.U, Pt.locs, Pt.cells, Pt.slots] at X2 l2 y2 z2 st2 hQ2
  subst l2 y2 z2
  obtain ⟨b_2, rfl, N2q, K2, fr_2, V_2⟩ := hQ2
  have ne2_1_fr_2 : a1 ≠ b_2 := Nat.ne_of_lt (Nat.lt_of_lt_of_le Es1.lt fr_2)
  have ne2_2_fr_2 : t1 ≠ b_2 := Nat.ne_of_lt (Nat.lt_of_lt_of_le Vb1.lt fr_2)
  have g_b_2 : n0 ≤ b_2 := Nat.le_trans (Nat.le_trans Z0 K0.1) fr_2
  have sz_b_2 : h0.size ≤ b_2 := Nat.le_trans K0.1 fr_2
  have N2 := Fr.app N0 N2q
  have O2 := O0.keep K2 all0
  have K2' : Keep h0 T2.heap ([] : List Addr) := K0.trans K2 all0
  refine own_go (B := T2.setTop (mkF m 3 #[.val (.ref a1), .unset, .unset, .unset, .unset] [(.ref b_2)])) (st2) ?_
  refine own_go (B := T2.setTop (mkF m 4 #[.val (.ref a1), .val (.ref b_2), .unset, .unset, .unset] [])) (fun _ k => XS.astoreN X2.here hx rfl (hb hby d7_3) rfl rfl (l' := #[.val (.ref a1), .val (.ref b_2), .unset, .unset, .unset]) rfl k) ?_
  refine own_go (B := T2.setTop (mkF m 5 #[.val (.ref a1), .val (.ref b_2), .unset, .unset, .unset] [(.ref b_2)])) (fun _ k => XS.aloadN X2.here hx rfl (hb hby d7_4) rfl rfl k) ?_
  obtain ⟨cl3, Ar3, -, Sz3, Nn3, -, -⟩ := id V_2
  refine own_go (B := T2.setTop (mkF m 6 #[.val (.ref a1), .val (.ref b_2), .unset, .unset, .unset] [(.int cl3.slots.size.toInt32)])) (X2.arraylength hx (show T2.heap[_]? = _ from Ar3.1) (State.isArrayOf_alike hZ.alike Ar3.2.1) (g := (mkF m 5 #[.val (.ref a1), .val (.ref b_2), .unset, .unset, .unset] [(.ref b_2)])) rfl rfl (hb hby d7_5)) ?_
  rw [len_of Sz3 Nn3]
  refine own_go (B := T2.setTop (mkF m 7 #[.val (.ref a1), .val (.ref b_2), .val (.int (4 : Int32)), .unset, .unset] [])) (fun _ k => XS.istoreN X2.here hx rfl (hb hby d7_6) rfl (l' := #[.val (.ref a1), .val (.ref b_2), .val (.int (4 : Int32)), .unset, .unset]) rfl k) ?_
  refine own_go (B := T2.setTop (mkF m 8 #[.val (.ref a1), .val (.ref b_2), .val (.int (4 : Int32)), .unset, .unset] [(.int (0 : Int32))])) (fun _ k => XS.iconst X2.here hx rfl (hb hby d7_7) k) ?_
  refine own_go (B := T2.setTop (mkF m 9 #[.val (.ref a1), .val (.ref b_2), .val (.int (4 : Int32)), .val (.int (0 : Int32)), .unset] [])) (fun _ k => XS.istoreN X2.here hx rfl (hb hby d7_8) rfl (l' := #[.val (.ref a1), .val (.ref b_2), .val (.int (4 : Int32)), .val (.int (0 : Int32)), .unset]) rfl k) ?_
  refine own_go (B := T2.setTop (mkF m 10 #[.val (.ref a1), .val (.ref b_2), .val (.int (4 : Int32)), .val (.int (0 : Int32)), .unset] [(.int (0 : Int32))])) (fun _ k => XS.iloadN X2.here hx rfl (hb hby d7_9) rfl k) ?_
  refine own_go (B := T2.setTop (mkF m 11 #[.val (.ref a1), .val (.ref b_2), .val (.int (4 : Int32)), .val (.int (0 : Int32)), .unset] [(.int (4 : Int32)), (.int (0 : Int32))])) (fun _ k => XS.iloadN X2.here hx rfl (hb hby d7_10) rfl k) ?_
  refine own_go (B := T2.setTop (mkF m 14 #[.val (.ref a1), .val (.ref b_2), .val (.int (4 : Int32)), .val (.int (0 : Int32)), .unset] [])) (fun _ k => XS.icmpNo X2.here hx rfl (hb hby d7_11) rfl (tlt (by decide : (0 : Int32) < (4 : Int32))).2.1 k) ?_
  refine own_go (B := T2.setTop (mkF m 15 #[.val (.ref a1), .val (.ref b_2), .val (.int (4 : Int32)), .val (.int (0 : Int32)), .unset] [(.ref b_2)])) (fun _ k => XS.aloadN X2.here hx rfl (hb hby d7_14) rfl rfl k) ?_
  refine own_go (B := T2.setTop (mkF m 16 #[.val (.ref a1), .val (.ref b_2), .val (.int (4 : Int32)), .val (.int (0 : Int32)), .unset] [(.int (0 : Int32)), (.ref b_2)])) (fun _ k => XS.iloadN X2.here hx rfl (hb hby d7_15) rfl k) ?_
  obtain ⟨cl4, Ar4, q4, Sz4, Nn4, Hh4, Gg4⟩ := id V_2
  have hin4 : ¬ ((0 : Int32) < 0 ∨ cl4.slots.size ≤ ((0 : Int32)).toNatClampNeg) := inb_of Sz4 ⟨by decide, by decide⟩
  have hat4 : cl4.slots[((0 : Int32)).toNatClampNeg]? = some (.ref wA) := Has.at Hh4 hin4 rfl
  refine own_go (B := T2.setTop (mkF m 17 #[.val (.ref a1), .val (.ref b_2), .val (.int (4 : Int32)), .val (.int (0 : Int32)), .unset] [(.ref wA)])) (X2.aaload hx (j := (0 : Int32)) (v := (.ref wA)) (show T2.heap[_]? = _ from Ar4.1) (State.isArrayOf_alike hZ.alike Ar4.2.1) rfl Ar4.2.2 hin4 hat4 (g := (mkF m 16 #[.val (.ref a1), .val (.ref b_2), .val (.int (4 : Int32)), .val (.int (0 : Int32)), .unset] [(.int (0 : Int32)), (.ref b_2)])) rfl rfl (hb hby d7_16)) ?_
  refine own_go (B := T2.setTop (mkF m 19 #[.val (.ref a1), .val (.ref b_2), .val (.int (4 : Int32)), .val (.int (0 : Int32)), .val (.ref wA)] [])) (fun _ k => XS.astore X2.here hx rfl (hb hby d7_17) rfl rfl (l' := #[.val (.ref a1), .val (.ref b_2), .val (.int (4 : Int32)), .val (.int (0 : Int32)), .val (.ref wA)]) rfl k) ?_
  refine own_go (B := T2.setTop (mkF m 21 #[.val (.ref a1), .val (.ref b_2), .val (.int (4 : Int32)), .val (.int (0 : Int32)), .val (.ref wA)] [(.ref wA)])) (fun _ k => XS.aload X2.here hx rfl (hb hby d7_19) rfl rfl k) ?_
  obtain ⟨T5, X5, e5, st5⟩ := getF X2 hx hZ hown (host := "") (Or.inl (hw _ (List.mem_of_getElem? (i := 54) rfl))) Via.refl rfl (F_word_wA.ext O2.2) (g := (mkF m 21 #[.val (.ref a1), .val (.ref b_2), .val (.int (4 : Int32)), .val (.int (0 : Int32)), .val (.ref wA)] [(.ref wA)])) rfl rfl (hb hby d7_21)
  refine own_go (B := T5.setTop (mkF m 24 #[.val (.ref a1), .val (.ref b_2), .val (.int (4 : Int32)), .val (.int (0 : Int32)), .val (.ref wA)] [(.ref sA)])) (st5) ?_
  refine own_go (B := T5.setTop (mkF m 25 #[.val (.ref a1), .val (.ref b_2), .val (.int (4 : Int32)), .val (.int (0 : Int32)), .val (.ref wA)] [(.ref a1), (.ref sA)])) (fun _ k => XS.aloadN X5.here hx rfl (hb hby d7_24) rfl rfl k) ?_
  obtain ⟨cq6, kq6, q6a, q6b, q6c⟩ := isOf hZ e5 (E_sA.ext O2.2)
  obtain ⟨_, _, ⟨T6, L6, k6, n6⟩, -, X6, ⟨Lc6, hQ6, l6, y6, z6⟩, st6⟩ := X5.virtualBack hx (y := (⟨"java/lang/String", "equals", "(Ljava/lang/Object;)Z"⟩ : MethodName)) (z := (⟨"java/lang/String", "equals", "(Ljava/lang/Object;)Z"⟩ : MethodName)) hown (mvT hZ (hw _ (List.mem_of_getElem? (i := 56) rfl))) (mvT hZ (hw _ (List.mem_of_getElem? (i := 57) rfl))) (notFace_of_selects (args := #[]) (mvT hZ (hw _ (List.mem_of_getElem? (i := 59) rfl)))) (mvT hZ (hw _ (List.mem_of_getElem? (i := 59) rfl))) (mvT hZ (hw _ (List.mem_of_getElem? (i := 58) rfl))) (by decide) (own_eqW (W := 0) hZ hw n0 (own_Str_ext O2.2 Sx_sA) (⟨t1, kb1, Nb1, vs1, (Es1.keep K2), (Fv1.keep K2 nin0), (Fc1.keep K2 nin0), (Vb1.keep K2 nin0), cd1, rg1, ln1⟩ : own_Str Z T2.heap a1 cs) (S_String_COMPACT_STRINGS.ext O2.2) hzC (by decide) (by decide)) q6a q6c (g := (mkF m 25 #[.val (.ref a1), .val (.ref b_2), .val (.int (4 : Int32)), .val (.int (0 : Int32)), .val (.ref wA)] [(.ref a1), (.ref sA)])) rfl (by rw [hml]; rfl) (Steps.refl _) (argsL := [(.ref a1)]) (rest := []) (lenOf pd_1 rfl) rfl (by show 2 * 0 + _ ≤ _; exact Nat.le_of_eq rfl) (hb hby d7_25) (fun _ _ => ⟨rfl, e5, (by decide : 1 + 0 ≤ 1), (by decide : 4 + 0 ≤ 4)⟩)
  dsimp only [Pt.U, Pt.locs, Pt.cells, Pt.slots] at X6 l6 y6 z6 st6 hQ6
  subst l6 y6 z6
  obtain ⟨rfl, N6q, K6⟩ := hQ6
  have N6 := Fr.app N2 N6q
  have e6 : T6.heap = T2.heap := K6
  refine own_go (B := T6.setTop (mkF m 28 #[.val (.ref a1), .val (.ref b_2), .val (.int (4 : Int32)), .val (.int (0 : Int32)), .val (.ref wA)] [(.int (own_eqs [(97 : Int32), (108 : Int32), (108 : Int32), (111 : Int32), (119 : Int32)] cs))])) (fun _ k => st6.trans k) ?_
  by_cases hc28 : (own_eqs [(97 : Int32), (108 : Int32), (108 : Int32), (111 : Int32), (119 : Int32)] cs) = (0 : Int32)
  · refine own_go (B := T6.setTop (mkF m 34 #[.val (.ref a1), .val (.ref b_2), .val (.int (4 : Int32)), .val (.int (0 : Int32)), .val (.ref wA)] [])) (fun _ k => XS.ifYes X6.here hx rfl (pc0 := 28) (pc' := 34) rfl (hb hby d7_28) rfl ((if0 _ _).trans (teq hc28).1) (by decide) (by decide) k) ?_
    refine own_go (B := T6.setTop (mkF m 37 #[.val (.ref a1), .val (.ref b_2), .val (.int (4 : Int32)), .val (.int ((0 : Int32) + (1 : Int32))), .val (.ref wA)] [])) (fun _ k => XS.iinc X6.here hx rfl (hb hby d7_34) rfl (l' := #[.val (.ref a1), .val (.ref b_2), .val (.int (4 : Int32)), .val (.int ((0 : Int32) + (1 : Int32))), .val (.ref wA)]) rfl k) ?_
    rw [show ((0 : Int32) + (1 : Int32)) = (1 : Int32) from by decide]
    refine own_go (B := T6.setTop (mkF m 9 #[.val (.ref a1), .val (.ref b_2), .val (.int (4 : Int32)), .val (.int (1 : Int32)), .val (.ref wA)] [])) (fun _ k => XS.goto X6.here hx rfl (pc0 := 37) (pc' := 9) rfl (hb hby d7_37) (by decide) (by decide) k) ?_
    refine own_go (B := T6.setTop (mkF m 10 #[.val (.ref a1), .val (.ref b_2), .val (.int (4 : Int32)), .val (.int (1 : Int32)), .val (.ref wA)] [(.int (1 : Int32))])) (fun _ k => XS.iloadN X6.here hx rfl (hb hby d7_9) rfl k) ?_
    refine own_go (B := T6.setTop (mkF m 11 #[.val (.ref a1), .val (.ref b_2), .val (.int (4 : Int32)), .val (.int (1 : Int32)), .val (.ref wA)] [(.int (4 : Int32)), (.int (1 : Int32))])) (fun _ k => XS.iloadN X6.here hx rfl (hb hby d7_10) rfl k) ?_
    refine own_go (B := T6.setTop (mkF m 14 #[.val (.ref a1), .val (.ref b_2), .val (.int (4 : Int32)), .val (.int (1 : Int32)), .val (.ref wA)] [])) (fun _ k => XS.icmpNo X6.here hx rfl (hb hby d7_11) rfl (tlt (by decide : (1 : Int32) < (4 : Int32))).2.1 k) ?_
    refine own_go (B := T6.setTop (mkF m 15 #[.val (.ref a1), .val (.ref b_2), .val (.int (4 : Int32)), .val (.int (1 : Int32)), .val (.ref wA)] [(.ref b_2)])) (fun _ k => XS.aloadN X6.here hx rfl (hb hby d7_14) rfl rfl k) ?_
    refine own_go (B := T6.setTop (mkF m 16 #[.val (.ref a1), .val (.ref b_2), .val (.int (4 : Int32)), .val (.int (1 : Int32)), .val (.ref wA)] [(.int (1 : Int32)), (.ref b_2)])) (fun _ k => XS.iloadN X6.here hx rfl (hb hby d7_15) rfl k) ?_
    obtain ⟨cl7, Ar7, q7, Sz7, Nn7, Hh7, Gg7⟩ := id V_2
    have hin7 : ¬ ((1 : Int32) < 0 ∨ cl7.slots.size ≤ ((1 : Int32)).toNatClampNeg) := inb_of Sz7 ⟨by decide, by decide⟩
    have hat7 : cl7.slots[((1 : Int32)).toNatClampNeg]? = some (.ref wD) := Has.at Hh7 hin7 rfl
    refine own_go (B := T6.setTop (mkF m 17 #[.val (.ref a1), .val (.ref b_2), .val (.int (4 : Int32)), .val (.int (1 : Int32)), .val (.ref wA)] [(.ref wD)])) (X6.aaload hx (j := (1 : Int32)) (v := (.ref wD)) (by rw [e6]; exact Ar7.1) (State.isArrayOf_alike hZ.alike Ar7.2.1) rfl Ar7.2.2 hin7 hat7 (g := (mkF m 16 #[.val (.ref a1), .val (.ref b_2), .val (.int (4 : Int32)), .val (.int (1 : Int32)), .val (.ref wA)] [(.int (1 : Int32)), (.ref b_2)])) rfl rfl (hb hby d7_16)) ?_
    refine own_go (B := T6.setTop (mkF m 19 #[.val (.ref a1), .val (.ref b_2), .val (.int (4 : Int32)), .val (.int (1 : Int32)), .val (.ref wD)] [])) (fun _ k => XS.astore X6.here hx rfl (hb hby d7_17) rfl rfl (l' := #[.val (.ref a1), .val (.ref b_2), .val (.int (4 : Int32)), .val (.int (1 : Int32)), .val (.ref wD)]) rfl k) ?_
    refine own_go (B := T6.setTop (mkF m 21 #[.val (.ref a1), .val (.ref b_2), .val (.int (4 : Int32)), .val (.int (1 : Int32)), .val (.ref wD)] [(.ref wD)])) (fun _ k => XS.aload X6.here hx rfl (hb hby d7_19) rfl rfl k) ?_
    obtain ⟨T8, X8, e8, st8⟩ := getF X6 hx hZ hown (host := "") (Or.inl (hw _ (List.mem_of_getElem? (i := 54) rfl))) Via.refl e6 (F_word_wD.ext O2.2) (g := (mkF m 21 #[.val (.ref a1), .val (.ref b_2), .val (.int (4 : Int32)), .val (.int (1 : Int32)), .val (.ref wD)] [(.ref wD)])) rfl rfl (hb hby d7_21)
    refine own_go (B := T8.setTop (mkF m 24 #[.val (.ref a1), .val (.ref b_2), .val (.int (4 : Int32)), .val (.int (1 : Int32)), .val (.ref wD)] [(.ref sD)])) (st8) ?_
    refine own_go (B := T8.setTop (mkF m 25 #[.val (.ref a1), .val (.ref b_2), .val (.int (4 : Int32)), .val (.int (1 : Int32)), .val (.ref wD)] [(.ref a1), (.ref sD)])) (fun _ k => XS.aloadN X8.here hx rfl (hb hby d7_24) rfl rfl k) ?_
    obtain ⟨cq9, kq9, q9a, q9b, q9c⟩ := isOf hZ e8 (E_sD.ext O2.2)
    obtain ⟨_, _, ⟨T9, L9, k9, n9⟩, -, X9, ⟨Lc9, hQ9, l9, y9, z9⟩, st9⟩ := X8.virtualBack hx (y := (⟨"java/lang/String", "equals", "(Ljava/lang/Object;)Z"⟩ : MethodName)) (z := (⟨"java/lang/String", "equals", "(Ljava/lang/Object;)Z"⟩ : MethodName)) hown (mvT hZ (hw _ (List.mem_of_getElem? (i := 56) rfl))) (mvT hZ (hw _ (List.mem_of_getElem? (i := 57) rfl))) (notFace_of_selects (args := #[]) (mvT hZ (hw _ (List.mem_of_getElem? (i := 59) rfl)))) (mvT hZ (hw _ (List.mem_of_getElem? (i := 59) rfl))) (mvT hZ (hw _ (List.mem_of_getElem? (i := 58) rfl))) (by decide) (own_eqW (W := 0) hZ hw n0 (own_Str_ext O2.2 Sx_sD) (⟨t1, kb1, Nb1, vs1, (Es1.keep K2), (Fv1.keep K2 nin0), (Fc1.keep K2 nin0), (Vb1.keep K2 nin0), cd1, rg1, ln1⟩ : own_Str Z T2.heap a1 cs) (S_String_COMPACT_STRINGS.ext O2.2) hzC (by decide) (by decide)) q9a q9c (g := (mkF m 25 #[.val (.ref a1), .val (.ref b_2), .val (.int (4 : Int32)), .val (.int (1 : Int32)), .val (.ref wD)] [(.ref a1), (.ref sD)])) rfl (by rw [hml]; rfl) (Steps.refl _) (argsL := [(.ref a1)]) (rest := []) (lenOf pd_1 rfl) rfl (by show 2 * 0 + _ ≤ _; exact Nat.le_of_eq rfl) (hb hby d7_25) (fun _ _ => ⟨rfl, e8, (by decide : 1 + 0 ≤ 1), (by decide : 4 + 0 ≤ 4)⟩)
    dsimp only [Pt.U, Pt.locs, Pt.cells, Pt.slots] at X9 l9 y9 z9 st9 hQ9
    subst l9 y9 z9
    obtain ⟨rfl, N9q, K9⟩ := hQ9
    have N9 := Fr.app N6 N9q
    have e9 : T9.heap = T2.heap := K9
    refine own_go (B := T9.setTop (mkF m 28 #[.val (.ref a1), .val (.ref b_2), .val (.int (4 : Int32)), .val (.int (1 : Int32)), .val (.ref wD)] [(.int (own_eqs [(100 : Int32), (101 : Int32), (110 : Int32), (121 : Int32)] cs))])) (fun _ k => st9.trans k) ?_
    by_cases hc28_2 : (own_eqs [(100 : Int32), (101 : Int32), (110 : Int32), (121 : Int32)] cs) = (0 : Int32)
    · refine own_go (B := T9.setTop (mkF m 34 #[.val (.ref a1), .val (.ref b_2), .val (.int (4 : Int32)), .val (.int (1 : Int32)), .val (.ref wD)] [])) (fun _ k => XS.ifYes X9.here hx rfl (pc0 := 28) (pc' := 34) rfl (hb hby d7_28) rfl ((if0 _ _).trans (teq hc28_2).1) (by decide) (by decide) k) ?_
      refine own_go (B := T9.setTop (mkF m 37 #[.val (.ref a1), .val (.ref b_2), .val (.int (4 : Int32)), .val (.int ((1 : Int32) + (1 : Int32))), .val (.ref wD)] [])) (fun _ k => XS.iinc X9.here hx rfl (hb hby d7_34) rfl (l' := #[.val (.ref a1), .val (.ref b_2), .val (.int (4 : Int32)), .val (.int ((1 : Int32) + (1 : Int32))), .val (.ref wD)]) rfl k) ?_
      rw [show ((1 : Int32) + (1 : Int32)) = (2 : Int32) from by decide]
      refine own_go (B := T9.setTop (mkF m 9 #[.val (.ref a1), .val (.ref b_2), .val (.int (4 : Int32)), .val (.int (2 : Int32)), .val (.ref wD)] [])) (fun _ k => XS.goto X9.here hx rfl (pc0 := 37) (pc' := 9) rfl (hb hby d7_37) (by decide) (by decide) k) ?_
      refine own_go (B := T9.setTop (mkF m 10 #[.val (.ref a1), .val (.ref b_2), .val (.int (4 : Int32)), .val (.int (2 : Int32)), .val (.ref wD)] [(.int (2 : Int32))])) (fun _ k => XS.iloadN X9.here hx rfl (hb hby d7_9) rfl k) ?_
      refine own_go (B := T9.setTop (mkF m 11 #[.val (.ref a1), .val (.ref b_2), .val (.int (4 : Int32)), .val (.int (2 : Int32)), .val (.ref wD)] [(.int (4 : Int32)), (.int (2 : Int32))])) (fun _ k => XS.iloadN X9.here hx rfl (hb hby d7_10) rfl k) ?_
      refine own_go (B := T9.setTop (mkF m 14 #[.val (.ref a1), .val (.ref b_2), .val (.int (4 : Int32)), .val (.int (2 : Int32)), .val (.ref wD)] [])) (fun _ k => XS.icmpNo X9.here hx rfl (hb hby d7_11) rfl (tlt (by decide : (2 : Int32) < (4 : Int32))).2.1 k) ?_
      refine own_go (B := T9.setTop (mkF m 15 #[.val (.ref a1), .val (.ref b_2), .val (.int (4 : Int32)), .val (.int (2 : Int32)), .val (.ref wD)] [(.ref b_2)])) (fun _ k => XS.aloadN X9.here hx rfl (hb hby d7_14) rfl rfl k) ?_
      refine own_go (B := T9.setTop (mkF m 16 #[.val (.ref a1), .val (.ref b_2), .val (.int (4 : Int32)), .val (.int (2 : Int32)), .val (.ref wD)] [(.int (2 : Int32)), (.ref b_2)])) (fun _ k => XS.iloadN X9.here hx rfl (hb hby d7_15) rfl k) ?_
      obtain ⟨cl10, Ar10, q10, Sz10, Nn10, Hh10, Gg10⟩ := id V_2
      have hin10 : ¬ ((2 : Int32) < 0 ∨ cl10.slots.size ≤ ((2 : Int32)).toNatClampNeg) := inb_of Sz10 ⟨by decide, by decide⟩
      have hat10 : cl10.slots[((2 : Int32)).toNatClampNeg]? = some (.ref wL) := Has.at Hh10 hin10 rfl
      refine own_go (B := T9.setTop (mkF m 17 #[.val (.ref a1), .val (.ref b_2), .val (.int (4 : Int32)), .val (.int (2 : Int32)), .val (.ref wD)] [(.ref wL)])) (X9.aaload hx (j := (2 : Int32)) (v := (.ref wL)) (by rw [e9]; exact Ar10.1) (State.isArrayOf_alike hZ.alike Ar10.2.1) rfl Ar10.2.2 hin10 hat10 (g := (mkF m 16 #[.val (.ref a1), .val (.ref b_2), .val (.int (4 : Int32)), .val (.int (2 : Int32)), .val (.ref wD)] [(.int (2 : Int32)), (.ref b_2)])) rfl rfl (hb hby d7_16)) ?_
      refine own_go (B := T9.setTop (mkF m 19 #[.val (.ref a1), .val (.ref b_2), .val (.int (4 : Int32)), .val (.int (2 : Int32)), .val (.ref wL)] [])) (fun _ k => XS.astore X9.here hx rfl (hb hby d7_17) rfl rfl (l' := #[.val (.ref a1), .val (.ref b_2), .val (.int (4 : Int32)), .val (.int (2 : Int32)), .val (.ref wL)]) rfl k) ?_
      refine own_go (B := T9.setTop (mkF m 21 #[.val (.ref a1), .val (.ref b_2), .val (.int (4 : Int32)), .val (.int (2 : Int32)), .val (.ref wL)] [(.ref wL)])) (fun _ k => XS.aload X9.here hx rfl (hb hby d7_19) rfl rfl k) ?_
      obtain ⟨T11, X11, e11, st11⟩ := getF X9 hx hZ hown (host := "") (Or.inl (hw _ (List.mem_of_getElem? (i := 54) rfl))) Via.refl e9 (F_word_wL.ext O2.2) (g := (mkF m 21 #[.val (.ref a1), .val (.ref b_2), .val (.int (4 : Int32)), .val (.int (2 : Int32)), .val (.ref wL)] [(.ref wL)])) rfl rfl (hb hby d7_21)
      refine own_go (B := T11.setTop (mkF m 24 #[.val (.ref a1), .val (.ref b_2), .val (.int (4 : Int32)), .val (.int (2 : Int32)), .val (.ref wL)] [(.ref sL)])) (st11) ?_
      refine own_go (B := T11.setTop (mkF m 25 #[.val (.ref a1), .val (.ref b_2), .val (.int (4 : Int32)), .val (.int (2 : Int32)), .val (.ref wL)] [(.ref a1), (.ref sL)])) (fun _ k => XS.aloadN X11.here hx rfl (hb hby d7_24) rfl rfl k) ?_
      obtain ⟨cq12, kq12, q12a, q12b, q12c⟩ := isOf hZ e11 (E_sL.ext O2.2)
      obtain ⟨_, _, ⟨T12, L12, k12, n12⟩, -, X12, ⟨Lc12, hQ12, l12, y12, z12⟩, st12⟩ := X11.virtualBack hx (y := (⟨"java/lang/String", "equals", "(Ljava/lang/Object;)Z"⟩ : MethodName)) (z := (⟨"java/lang/String", "equals", "(Ljava/lang/Object;)Z"⟩ : MethodName)) hown (mvT hZ (hw _ (List.mem_of_getElem? (i := 56) rfl))) (mvT hZ (hw _ (List.mem_of_getElem? (i := 57) rfl))) (notFace_of_selects (args := #[]) (mvT hZ (hw _ (List.mem_of_getElem? (i := 59) rfl)))) (mvT hZ (hw _ (List.mem_of_getElem? (i := 59) rfl))) (mvT hZ (hw _ (List.mem_of_getElem? (i := 58) rfl))) (by decide) (own_eqW (W := 0) hZ hw n0 (own_Str_ext O2.2 Sx_sL) (⟨t1, kb1, Nb1, vs1, (Es1.keep K2), (Fv1.keep K2 nin0), (Fc1.keep K2 nin0), (Vb1.keep K2 nin0), cd1, rg1, ln1⟩ : own_Str Z T2.heap a1 cs) (S_String_COMPACT_STRINGS.ext O2.2) hzC (by decide) (by decide)) q12a q12c (g := (mkF m 25 #[.val (.ref a1), .val (.ref b_2), .val (.int (4 : Int32)), .val (.int (2 : Int32)), .val (.ref wL)] [(.ref a1), (.ref sL)])) rfl (by rw [hml]; rfl) (Steps.refl _) (argsL := [(.ref a1)]) (rest := []) (lenOf pd_1 rfl) rfl (by show 2 * 0 + _ ≤ _; exact Nat.le_of_eq rfl) (hb hby d7_25) (fun _ _ => ⟨rfl, e11, (by decide : 1 + 0 ≤ 1), (by decide : 4 + 0 ≤ 4)⟩)
      dsimp only [Pt.U, Pt.locs, Pt.cells, Pt.slots] at X12 l12 y12 z12 st12 hQ12
      subst l12 y12 z12
      obtain ⟨rfl, N12q, K12⟩ := hQ12
      have N12 := Fr.app N9 N12q
      have e12 : T12.heap = T2.heap := K12
      refine own_go (B := T12.setTop (mkF m 28 #[.val (.ref a1), .val (.ref b_2), .val (.int (4 : Int32)), .val (.int (2 : Int32)), .val (.ref wL)] [(.int (own_eqs [(97 : Int32), (108 : Int32), (108 : Int32)] cs))])) (fun _ k => st12.trans k) ?_
      by_cases hc28_3 : (own_eqs [(97 : Int32), (108 : Int32), (108 : Int32)] cs) = (0 : Int32)
      · refine own_go (B := T12.setTop (mkF m 34 #[.val (.ref a1), .val (.ref b_2), .val (.int (4 : Int32)), .val (.int (2 : Int32)), .val (.ref wL)] [])) (fun _ k => XS.ifYes X12.here hx rfl (pc0 := 28) (pc' := 34) rfl (hb hby d7_28) rfl ((if0 _ _).trans (teq hc28_3).1) (by decide) (by decide) k) ?_
        refine own_go (B := T12.setTop (mkF m 37 #[.val (.ref a1), .val (.ref b_2), .val (.int (4 : Int32)), .val (.int ((2 : Int32) + (1 : Int32))), .val (.ref wL)] [])) (fun _ k => XS.iinc X12.here hx rfl (hb hby d7_34) rfl (l' := #[.val (.ref a1), .val (.ref b_2), .val (.int (4 : Int32)), .val (.int ((2 : Int32) + (1 : Int32))), .val (.ref wL)]) rfl k) ?_
        rw [show ((2 : Int32) + (1 : Int32)) = (3 : Int32) from by decide]
        refine own_go (B := T12.setTop (mkF m 9 #[.val (.ref a1), .val (.ref b_2), .val (.int (4 : Int32)), .val (.int (3 : Int32)), .val (.ref wL)] [])) (fun _ k => XS.goto X12.here hx rfl (pc0 := 37) (pc' := 9) rfl (hb hby d7_37) (by decide) (by decide) k) ?_
        refine own_go (B := T12.setTop (mkF m 10 #[.val (.ref a1), .val (.ref b_2), .val (.int (4 : Int32)), .val (.int (3 : Int32)), .val (.ref wL)] [(.int (3 : Int32))])) (fun _ k => XS.iloadN X12.here hx rfl (hb hby d7_9) rfl k) ?_
        refine own_go (B := T12.setTop (mkF m 11 #[.val (.ref a1), .val (.ref b_2), .val (.int (4 : Int32)), .val (.int (3 : Int32)), .val (.ref wL)] [(.int (4 : Int32)), (.int (3 : Int32))])) (fun _ k => XS.iloadN X12.here hx rfl (hb hby d7_10) rfl k) ?_
        refine own_go (B := T12.setTop (mkF m 14 #[.val (.ref a1), .val (.ref b_2), .val (.int (4 : Int32)), .val (.int (3 : Int32)), .val (.ref wL)] [])) (fun _ k => XS.icmpNo X12.here hx rfl (hb hby d7_11) rfl (tlt (by decide : (3 : Int32) < (4 : Int32))).2.1 k) ?_
        refine own_go (B := T12.setTop (mkF m 15 #[.val (.ref a1), .val (.ref b_2), .val (.int (4 : Int32)), .val (.int (3 : Int32)), .val (.ref wL)] [(.ref b_2)])) (fun _ k => XS.aloadN X12.here hx rfl (hb hby d7_14) rfl rfl k) ?_
        refine own_go (B := T12.setTop (mkF m 16 #[.val (.ref a1), .val (.ref b_2), .val (.int (4 : Int32)), .val (.int (3 : Int32)), .val (.ref wL)] [(.int (3 : Int32)), (.ref b_2)])) (fun _ k => XS.iloadN X12.here hx rfl (hb hby d7_15) rfl k) ?_
        obtain ⟨cl13, Ar13, q13, Sz13, Nn13, Hh13, Gg13⟩ := id V_2
        have hin13 : ¬ ((3 : Int32) < 0 ∨ cl13.slots.size ≤ ((3 : Int32)).toNatClampNeg) := inb_of Sz13 ⟨by decide, by decide⟩
        have hat13 : cl13.slots[((3 : Int32)).toNatClampNeg]? = some (.ref wN) := Has.at Hh13 hin13 rfl
        refine own_go (B := T12.setTop (mkF m 17 #[.val (.ref a1), .val (.ref b_2), .val (.int (4 : Int32)), .val (.int (3 : Int32)), .val (.ref wL)] [(.ref wN)])) (X12.aaload hx (j := (3 : Int32)) (v := (.ref wN)) (by rw [e12]; exact Ar13.1) (State.isArrayOf_alike hZ.alike Ar13.2.1) rfl Ar13.2.2 hin13 hat13 (g := (mkF m 16 #[.val (.ref a1), .val (.ref b_2), .val (.int (4 : Int32)), .val (.int (3 : Int32)), .val (.ref wL)] [(.int (3 : Int32)), (.ref b_2)])) rfl rfl (hb hby d7_16)) ?_
        refine own_go (B := T12.setTop (mkF m 19 #[.val (.ref a1), .val (.ref b_2), .val (.int (4 : Int32)), .val (.int (3 : Int32)), .val (.ref wN)] [])) (fun _ k => XS.astore X12.here hx rfl (hb hby d7_17) rfl rfl (l' := #[.val (.ref a1), .val (.ref b_2), .val (.int (4 : Int32)), .val (.int (3 : Int32)), .val (.ref wN)]) rfl k) ?_
        refine own_go (B := T12.setTop (mkF m 21 #[.val (.ref a1), .val (.ref b_2), .val (.int (4 : Int32)), .val (.int (3 : Int32)), .val (.ref wN)] [(.ref wN)])) (fun _ k => XS.aload X12.here hx rfl (hb hby d7_19) rfl rfl k) ?_
        obtain ⟨T14, X14, e14, st14⟩ := getF X12 hx hZ hown (host := "") (Or.inl (hw _ (List.mem_of_getElem? (i := 54) rfl))) Via.refl e12 (F_word_wN.ext O2.2) (g := (mkF m 21 #[.val (.ref a1), .val (.ref b_2), .val (.int (4 : Int32)), .val (.int (3 : Int32)), .val (.ref wN)] [(.ref wN)])) rfl rfl (hb hby d7_21)
        refine own_go (B := T14.setTop (mkF m 24 #[.val (.ref a1), .val (.ref b_2), .val (.int (4 : Int32)), .val (.int (3 : Int32)), .val (.ref wN)] [(.ref sN)])) (st14) ?_
        refine own_go (B := T14.setTop (mkF m 25 #[.val (.ref a1), .val (.ref b_2), .val (.int (4 : Int32)), .val (.int (3 : Int32)), .val (.ref wN)] [(.ref a1), (.ref sN)])) (fun _ k => XS.aloadN X14.here hx rfl (hb hby d7_24) rfl rfl k) ?_
        obtain ⟨cq15, kq15, q15a, q15b, q15c⟩ := isOf hZ e14 (E_sN.ext O2.2)
        obtain ⟨_, _, ⟨T15, L15, k15, n15⟩, -, X15, ⟨Lc15, hQ15, l15, y15, z15⟩, st15⟩ := X14.virtualBack hx (y := (⟨"java/lang/String", "equals", "(Ljava/lang/Object;)Z"⟩ : MethodName)) (z := (⟨"java/lang/String", "equals", "(Ljava/lang/Object;)Z"⟩ : MethodName)) hown (mvT hZ (hw _ (List.mem_of_getElem? (i := 56) rfl))) (mvT hZ (hw _ (List.mem_of_getElem? (i := 57) rfl))) (notFace_of_selects (args := #[]) (mvT hZ (hw _ (List.mem_of_getElem? (i := 59) rfl)))) (mvT hZ (hw _ (List.mem_of_getElem? (i := 59) rfl))) (mvT hZ (hw _ (List.mem_of_getElem? (i := 58) rfl))) (by decide) (own_eqW (W := 0) hZ hw n0 (own_Str_ext O2.2 Sx_sN) (⟨t1, kb1, Nb1, vs1, (Es1.keep K2), (Fv1.keep K2 nin0), (Fc1.keep K2 nin0), (Vb1.keep K2 nin0), cd1, rg1, ln1⟩ : own_Str Z T2.heap a1 cs) (S_String_COMPACT_STRINGS.ext O2.2) hzC (by decide) (by decide)) q15a q15c (g := (mkF m 25 #[.val (.ref a1), .val (.ref b_2), .val (.int (4 : Int32)), .val (.int (3 : Int32)), .val (.ref wN)] [(.ref a1), (.ref sN)])) rfl (by rw [hml]; rfl) (Steps.refl _) (argsL := [(.ref a1)]) (rest := []) (lenOf pd_1 rfl) rfl (by show 2 * 0 + _ ≤ _; exact Nat.le_of_eq rfl) (hb hby d7_25) (fun _ _ => ⟨rfl, e14, (by decide : 1 + 0 ≤ 1), (by decide : 4 + 0 ≤ 4)⟩)
        dsimp only [Pt.U, Pt.locs, Pt.cells, Pt.slots] at X15 l15 y15 z15 st15 hQ15
        subst l15 y15 z15
        obtain ⟨rfl, N15q, K15⟩ := hQ15
        have N15 := Fr.app N12 N15q
        have e15 : T15.heap = T2.heap := K15
        refine own_go (B := T15.setTop (mkF m 28 #[.val (.ref a1), .val (.ref b_2), .val (.int (4 : Int32)), .val (.int (3 : Int32)), .val (.ref wN)] [(.int (own_eqs [(110 : Int32), (111 : Int32), (110 : Int32), (101 : Int32)] cs))])) (fun _ k => st15.trans k) ?_
        refine own_go (B := T15.setTop (mkF m 31 #[.val (.ref a1), .val (.ref b_2), .val (.int (4 : Int32)), .val (.int (3 : Int32)), .val (.ref wN)] [])) (fun _ k => XS.ifNo X15.here hx rfl (hb hby d7_28) rfl ((if0 _ _).trans (feq (own_last hcs hc28 hc28_2 hc28_3)).1) k) ?_
        refine own_go (B := T15.setTop (mkF m 33 #[.val (.ref a1), .val (.ref b_2), .val (.int (4 : Int32)), .val (.int (3 : Int32)), .val (.ref wN)] [(.ref wN)])) (fun _ k => XS.aload X15.here hx rfl (hb hby d7_31) rfl rfl k) ?_
        obtain ⟨fs, hr, hrun, hended, hW, hsame⟩ := X15.leave (v := some (.ref wN)) (fun h => by rw [Bd.returns] at h; cases h)
        refine ⟨_, _, retOut X15 hx Bd.returns rfl (Or.inr (Or.inr (Or.inr (Or.inr ⟨rfl, rfl, rfl⟩)))) (hb hby d7_33) hr, hrun, hended, _, _, rfl, ?_, ⟨_, rfl⟩, hW, hsame.mono (by decide) (by decide)⟩
        show Q_rm7 Z wA wV wD wL wN sA tA sD tD sL tL sN tN k_wV k_tA k_tD k_tL k_tN zC fm a1 cs h0 n0 _ T15.heap _
        rw [e15]
        exact ⟨(by rw [← (own_eqs_ne (own_last hcs hc28 hc28_2 hc28_3))]; simp [own_kind]), N15, K2'⟩
      · refine own_go (B := T12.setTop (mkF m 31 #[.val (.ref a1), .val (.ref b_2), .val (.int (4 : Int32)), .val (.int (2 : Int32)), .val (.ref wL)] [])) (fun _ k => XS.ifNo X12.here hx rfl (hb hby d7_28) rfl ((if0 _ _).trans (feq hc28_3).1) k) ?_
        refine own_go (B := T12.setTop (mkF m 33 #[.val (.ref a1), .val (.ref b_2), .val (.int (4 : Int32)), .val (.int (2 : Int32)), .val (.ref wL)] [(.ref wL)])) (fun _ k => XS.aload X12.here hx rfl (hb hby d7_31) rfl rfl k) ?_
        obtain ⟨fs, hr, hrun, hended, hW, hsame⟩ := X12.leave (v := some (.ref wL)) (fun h => by rw [Bd.returns] at h; cases h)
        refine ⟨_, _, retOut X12 hx Bd.returns rfl (Or.inr (Or.inr (Or.inr (Or.inr ⟨rfl, rfl, rfl⟩)))) (hb hby d7_33) hr, hrun, hended, _, _, rfl, ?_, ⟨_, rfl⟩, hW, hsame.mono (by decide) (by decide)⟩
        show Q_rm7 Z wA wV wD wL wN sA tA sD tD sL tL sN tN k_wV k_tA k_tD k_tL k_tN zC fm a1 cs h0 n0 _ T12.heap _
        rw [e12]
        exact ⟨(by rw [← (own_eqs_ne hc28_3)]; simp [own_kind]), N12, K2'⟩
    · refine own_go (B := T9.setTop (mkF m 31 #[.val (.ref a1), .val (.ref b_2), .val (.int (4 : Int32)), .val (.int (1 : Int32)), .val (.ref wD)] [])) (fun _ k => XS.ifNo X9.here hx rfl (hb hby d7_28) rfl ((if0 _ _).trans (feq hc28_2).1) k) ?_
      refine own_go (B := T9.setTop (mkF m 33 #[.val (.ref a1), .val (.ref b_2), .val (.int (4 : Int32)), .val (.int (1 : Int32)), .val (.ref wD)] [(.ref wD)])) (fun _ k => XS.aload X9.here hx rfl (hb hby d7_31) rfl rfl k) ?_
      obtain ⟨fs, hr, hrun, hended, hW, hsame⟩ := X9.leave (v := some (.ref wD)) (fun h => by rw [Bd.returns] at h; cases h)
      refine ⟨_, _, retOut X9 hx Bd.returns rfl (Or.inr (Or.inr (Or.inr (Or.inr ⟨rfl, rfl, rfl⟩)))) (hb hby d7_33) hr, hrun, hended, _, _, rfl, ?_, ⟨_, rfl⟩, hW, hsame.mono (by decide) (by decide)⟩
      show Q_rm7 Z wA wV wD wL wN sA tA sD tD sL tL sN tN k_wV k_tA k_tD k_tL k_tN zC fm a1 cs h0 n0 _ T9.heap _
      rw [e9]
      exact ⟨(by rw [← (own_eqs_ne hc28_2)]; simp [own_kind]), N9, K2'⟩
  · refine own_go (B := T6.setTop (mkF m 31 #[.val (.ref a1), .val (.ref b_2), .val (.int (4 : Int32)), .val (.int (0 : Int32)), .val (.ref wA)] [])) (fun _ k => XS.ifNo X6.here hx rfl (hb hby d7_28) rfl ((if0 _ _).trans (feq hc28).1) k) ?_
    refine own_go (B := T6.setTop (mkF m 33 #[.val (.ref a1), .val (.ref b_2), .val (.int (4 : Int32)), .val (.int (0 : Int32)), .val (.ref wA)] [(.ref wA)])) (fun _ k => XS.aload X6.here hx rfl (hb hby d7_31) rfl rfl k) ?_
    obtain ⟨fs, hr, hrun, hended, hW, hsame⟩ := X6.leave (v := some (.ref wA)) (fun h => by rw [Bd.returns] at h; cases h)
    refine ⟨_, _, retOut X6 hx Bd.returns rfl (Or.inr (Or.inr (Or.inr (Or.inr ⟨rfl, rfl, rfl⟩)))) (hb hby d7_33) hr, hrun, hended, _, _, rfl, ?_, ⟨_, rfl⟩, hW, hsame.mono (by decide) (by decide)⟩
    show Q_rm7 Z wA wV wD wL wN sA tA sD tD sL tL sN tN k_wV k_tA k_tD k_tL k_tN zC fm a1 cs h0 n0 _ T6.heap _
    rw [e6]
    exact ⟨(by rw [← (own_eqs_ne hc28)]; simp [own_kind]), N6, K2'⟩
theorem pd_2 : parseMethodDescriptor "([C)V" = some ⟨[(.array .char)], none⟩ := by decide +kernel
theorem pd_3 : parseMethodDescriptor "(Ljava/lang/String;)Lcom/example/rolegraph/rolegraph/ColumnRule$Kind;" = some ⟨[(.object "java/lang/String")], some (.object "com/example/rolegraph/rolegraph/ColumnRule$Kind")⟩ := by decide +kernel
theorem pn_0 : plainName "com/example/rolegraph/rolegraph/KindOfPinLaw" = true := by first | (simp [plainName, overriddenIn]; done) | decide +kernel
theorem ef_rm0 (m : MethodId) (p0 : Int32) (p1 : Int32) : entryFrame m #[(.int p0), (.int p1)] maxLocals = mkF m 0 #[.val (.int p0), .val (.int p1), .unset, .unset, .unset, .unset, .unset, .unset] [] := by first | (simp [entryFrame, mkF, argsToLocals, Value.category, maxLocals]; done) | rfl
def Q_rm0 (Z : State) (wA : Addr) (wV : Addr) (wD : Addr) (wL : Addr) (wN : Addr) (sA : Addr) (tA : Addr) (sD : Addr) (tD : Addr) (sL : Addr) (tL : Addr) (sN : Addr) (tN : Addr) (k_wV : ClassId) (k_tA : ClassId) (k_tD : ClassId) (k_tL : ClassId) (k_tN : ClassId) (zC : Int32) (fm : Value) (p0 : Int32) (p1 : Int32) (h0 : Heap) (n0 : Nat) (v : Option Value) (h : Heap) (L : List Loc) : Prop := v = some (.int (1 : Int32)) ∧ Fr n0 L
set_option maxRecDepth 65536 in
set_option maxHeartbeats 40000000 in
theorem rm0 (l : Launch) (Z : State) (a0 : Array Value) (hw : ∀ d ∈ tables_1, d.before a0 Z = true) (ws : List Jvm.Cond) (wA : Addr) (wV : Addr) (wD : Addr) (wL : Addr) (wN : Addr) (sA : Addr) (tA : Addr) (sD : Addr) (tD : Addr) (sL : Addr) (tL : Addr) (sN : Addr) (tN : Addr) (k_wV : ClassId) (k_tA : ClassId) (k_tD : ClassId) (k_tL : ClassId) (k_tN : ClassId) (zC : Int32) (fm : Value) (G : own_G Z wA wV wD wL wN sA tA sD tD sL tL sN tN k_wV k_tA k_tD k_tL k_tN zC fm) (p0 : Int32) (p1 : Int32) (h0 : Heap) (n0 : Nat) (Z0 : n0 ≤ h0.size) (O0 : Old Z n0 h0) :
    MetFree l x (head1 (Jvm.Cond.code x code maxLocals ret :: ws) room_1) (fun a U => a = #[(.int p0), (.int p1)] ∧ Z.Warmed39 U.vm ∧ U.heap = h0) (fun _ _ _ _ _ => True) (fun _ U o U' => ∃ v L, o = .returned v ∧ Q_rm0 Z wA wV wD wL wN sA tA sD tD sL tL sN tN k_wV k_tA k_tD k_tL k_tN zC fm p0 p1 h0 n0 v U'.heap L ∧ FrameEnd U o U' L room_1.cells room_1.slots) := by
  refine MetFree.of_bodySF (plainFor_of_name pn_0) hisR ?_
  intro p e s m args below meth c s₁ Bd hml0 hP hK
  obtain ⟨rfl, hZ, hh⟩ := hP
  have hx := Bd.exec
  have hby := Bd.bytes
  have hml : c.maxLocals = 8 := hml0
  have hown : s.vm.findClass "com/example/rolegraph/rolegraph/KindOfPinLaw" = some m.cls := findClass_of_methodNamed Bd.named
  have hnm := (name_of_methodNamed Bd.named Bd.method).1
  have X0 : Stand p l e room_1 s m #[(.int p0), (.int p1)] below meth c s₁ [] 0 0 := Stand.of_body Bd
  have e0 : s₁.heap = h0 := by rw [← hh, Bd.state]; rfl
  have N0 := Fr.nil n0
  have K0 := Keep.refl h0 ([] : List Addr)
  have G_ := G
  obtain ⟨S_ColumnRule_Kind_ALLOW, E_wA, S_ColumnRule_Kind_VALUES, E_wV, S_ColumnRule_Kind_DENY, E_wD, S_ColumnRule_Kind_ALL, E_wL, S_ColumnRule_Kind_NONE, E_wN, F_word_wA, E_sA, F_value_sA, F_word_wD, E_sD, F_value_sD, F_word_wL, E_sL, F_value_sL, F_word_wN, E_sN, F_value_sN, F_coder_sA, F_coder_sD, F_coder_sL, F_coder_sN, V_wV, V_tA, V_tD, V_tL, V_tN, S_String_COMPACT_STRINGS, hzC, S_Preconditions_SIOOBE_FORMATTER, hfm, Sx_sA, Sx_sD, Sx_sL, Sx_sN, G_end⟩ := G_
  change own_Go p e below _ _
  refine own_go (B := s₁.setTop (mkF m 0 #[.val (.int p0), .val (.int p1), .unset, .unset, .unset, .unset, .unset, .unset] [])) (fun _ k => castTop (ef_rm0 m p0 p1) k) ?_
  refine own_go (B := s₁.setTop (mkF m 1 #[.val (.int p0), .val (.int p1), .unset, .unset, .unset, .unset, .unset, .unset] [(.int p0)])) (fun _ k => XS.iloadN X0.here hx rfl (hb hby at_0) rfl k) ?_
  refine own_go (B := s₁.setTop (mkF m 2 #[.val (.int p0), .val (.int p1), .unset, .unset, .unset, .unset, .unset, .unset] [(.int (3 : Int32)), (.int p0)])) (fun _ k => XS.iconst X0.here hx rfl (hb hby at_1) k) ?_
  refine own_go (B := s₁.setTop (mkF m 3 #[.val (.int p0), .val (.int p1), .unset, .unset, .unset, .unset, .unset, .unset] [(.int (p0 &&& (3 : Int32)))])) (fun _ k => XS.iand X0.here hx rfl (hb hby at_2) rfl k) ?_
  generalize hv3 : (p0 &&& (3 : Int32)) = v3
  refine own_go (B := s₁.setTop (mkF m 4 #[.val (.int p0), .val (.int p1), .val (.int v3), .unset, .unset, .unset, .unset, .unset] [])) (fun _ k => XS.istoreN X0.here hx rfl (hb hby at_3) rfl (l' := #[.val (.int p0), .val (.int p1), .val (.int v3), .unset, .unset, .unset, .unset, .unset]) rfl k) ?_
  refine own_go (B := s₁.setTop (mkF m 5 #[.val (.int p0), .val (.int p1), .val (.int v3), .unset, .unset, .unset, .unset, .unset] [(.int v3)])) (fun _ k => XS.iloadN X0.here hx rfl (hb hby at_4) rfl k) ?_
  by_cases hc5 : v3 = (0 : Int32)
  · refine own_go (B := s₁.setTop (mkF m 8 #[.val (.int p0), .val (.int p1), .val (.int v3), .unset, .unset, .unset, .unset, .unset] [])) (fun _ k => XS.ifNo X0.here hx rfl (hb hby at_5) rfl ((if0 _ _).trans (teq hc5).2) k) ?_
    refine own_go (B := s₁.setTop (mkF m 9 #[.val (.int p0), .val (.int p1), .val (.int v3), .unset, .unset, .unset, .unset, .unset] [(.int (5 : Int32))])) (fun _ k => XS.iconst X0.here hx rfl (hb hby at_8) k) ?_
    obtain ⟨T1, h1, k1, X1, e1, E1, A1, st1⟩ := newP X0 hx hZ (hw _ (List.mem_of_getElem? (i := 0) rfl)) e0 (g := (mkF m 9 #[.val (.int p0), .val (.int p1), .val (.int v3), .unset, .unset, .unset, .unset, .unset] [(.int (5 : Int32))])) rfl (hb hby at_9) rfl (by decide) (cap := 5) (by decide) (by decide) (by decide) (by decide)
    obtain ⟨b1, g1⟩ : ∃ z, z = h0.size := ⟨_, rfl⟩
    rw [← g1] at A1 st1
    have g_b1 : n0 ≤ b1 := Nat.le_trans (Nat.le_trans Z0 K0.1) (Nat.le_of_eq g1.symm)
    have sz_b1 : h0.size ≤ b1 := Nat.le_trans K0.1 (Nat.le_of_eq g1.symm)
    have O1 := O0.ext E1
    have K1' : Keep h0 h1 ([] : List Addr) := K0.ext E1
    have V_b1 : Arv Z h1 b1 k1 .char (5 : Int32) [(.int (0 : Int32)), (.int (0 : Int32)), (.int (0 : Int32)), (.int (0 : Int32)), (.int (0 : Int32))] (.int (0 : Int32)) := (Arv.new A1 (by decide)).pad (pad_rep [] (.int (0 : Int32)) 5)
    refine own_go (B := T1.setTop (mkF m 11 #[.val (.int p0), .val (.int p1), .val (.int v3), .unset, .unset, .unset, .unset, .unset] [(.ref b1)])) (st1) ?_
    refine own_go (B := T1.setTop (mkF m 12 #[.val (.int p0), .val (.int p1), .val (.int v3), .unset, .unset, .unset, .unset, .unset] [(.ref b1), (.ref b1)])) (fun _ k => XS.dup X1.here hx rfl (hb hby at_11) rfl rfl k) ?_
    refine own_go (B := T1.setTop (mkF m 13 #[.val (.int p0), .val (.int p1), .val (.int v3), .unset, .unset, .unset, .unset, .unset] [(.int (0 : Int32)), (.ref b1), (.ref b1)])) (fun _ k => XS.iconst X1.here hx rfl (hb hby at_12) k) ?_
    refine own_go (B := T1.setTop (mkF m 15 #[.val (.int p0), .val (.int p1), .val (.int v3), .unset, .unset, .unset, .unset, .unset] [(.int (97 : Int32)), (.int (0 : Int32)), (.ref b1), (.ref b1)])) (fun _ k => XS.bipush X1.here hx rfl (hb hby at_13) k) ?_
    obtain ⟨cl2, Ar2, q2, Sz2, Nn2, Hh2, Gg2⟩ := id V_b1
    have hin2 : ¬ ((0 : Int32) < 0 ∨ cl2.slots.size ≤ ((0 : Int32)).toNatClampNeg) := inb_of Sz2 ⟨by decide, by decide⟩
    obtain ⟨T3, h3, X3, e3, W3, st3⟩ := stC X1 hx hZ e1 Ar2 (j := (0 : Int32)) hin2 (g := (mkF m 15 #[.val (.int p0), .val (.int p1), .val (.int v3), .unset, .unset, .unset, .unset, .unset] [(.int (97 : Int32)), (.int (0 : Int32)), (.ref b1), (.ref b1)])) rfl rfl (hb hby at_15)
    rw [own_nar (c := (97 : Int32)) ⟨by decide, by decide⟩] at W3
    have V3 := Arv.set Ar2 q2 Sz2 Nn2 Hh2 Gg2 (own_nar (c := (97 : Int32)) ⟨by decide, by decide⟩ ▸ fits_nar_char (97 : Int32)) W3 0 rfl (Nat.le_of_ble_eq_true rfl)
    have O3 := O1.wr W3 g_b1
    have N3 := Fr.snoc X3 N0 g_b1
    have K3' : Keep h0 h3 ([] : List Addr) := K1'.wr W3 (Or.inr sz_b1)
    replace V3 : Arv Z h3 b1 k1 .char (5 : Int32) [(.int (97 : Int32)), (.int (0 : Int32)), (.int (0 : Int32)), (.int (0 : Int32)), (.int (0 : Int32))] (.int (0 : Int32)) := V3
    refine own_go (B := T3.setTop (mkF m 16 #[.val (.int p0), .val (.int p1), .val (.int v3), .unset, .unset, .unset, .unset, .unset] [(.ref b1)])) (st3) ?_
    refine own_go (B := T3.setTop (mkF m 17 #[.val (.int p0), .val (.int p1), .val (.int v3), .unset, .unset, .unset, .unset, .unset] [(.ref b1), (.ref b1)])) (fun _ k => XS.dup X3.here hx rfl (hb hby at_16) rfl rfl k) ?_
    refine own_go (B := T3.setTop (mkF m 18 #[.val (.int p0), .val (.int p1), .val (.int v3), .unset, .unset, .unset, .unset, .unset] [(.int (1 : Int32)), (.ref b1), (.ref b1)])) (fun _ k => XS.iconst X3.here hx rfl (hb hby at_17) k) ?_
    refine own_go (B := T3.setTop (mkF m 20 #[.val (.int p0), .val (.int p1), .val (.int v3), .unset, .unset, .unset, .unset, .unset] [(.int (108 : Int32)), (.int (1 : Int32)), (.ref b1), (.ref b1)])) (fun _ k => XS.bipush X3.here hx rfl (hb hby at_18) k) ?_
    obtain ⟨cl4, Ar4, q4, Sz4, Nn4, Hh4, Gg4⟩ := id V3
    have hin4 : ¬ ((1 : Int32) < 0 ∨ cl4.slots.size ≤ ((1 : Int32)).toNatClampNeg) := inb_of Sz4 ⟨by decide, by decide⟩
    obtain ⟨T5, h5, X5, e5, W5, st5⟩ := stC X3 hx hZ e3 Ar4 (j := (1 : Int32)) hin4 (g := (mkF m 20 #[.val (.int p0), .val (.int p1), .val (.int v3), .unset, .unset, .unset, .unset, .unset] [(.int (108 : Int32)), (.int (1 : Int32)), (.ref b1), (.ref b1)])) rfl rfl (hb hby at_20)
    rw [own_nar (c := (108 : Int32)) ⟨by decide, by decide⟩] at W5
    have V5 := Arv.set Ar4 q4 Sz4 Nn4 Hh4 Gg4 (own_nar (c := (108 : Int32)) ⟨by decide, by decide⟩ ▸ fits_nar_char (108 : Int32)) W5 1 rfl (Nat.le_of_ble_eq_true rfl)
    have O5 := O3.wr W5 g_b1
    have N5 := Fr.snoc X5 N3 g_b1
    have K5' : Keep h0 h5 ([] : List Addr) := K3'.wr W5 (Or.inr sz_b1)
    replace V5 : Arv Z h5 b1 k1 .char (5 : Int32) [(.int (97 : Int32)), (.int (108 : Int32)), (.int (0 : Int32)), (.int (0 : Int32)), (.int (0 : Int32))] (.int (0 : Int32)) := V5
    refine own_go (B := T5.setTop (mkF m 21 #[.val (.int p0), .val (.int p1), .val (.int v3), .unset, .unset, .unset, .unset, .unset] [(.ref b1)])) (st5) ?_
    refine own_go (B := T5.setTop (mkF m 22 #[.val (.int p0), .val (.int p1), .val (.int v3), .unset, .unset, .unset, .unset, .unset] [(.ref b1), (.ref b1)])) (fun _ k => XS.dup X5.here hx rfl (hb hby at_21) rfl rfl k) ?_
    refine own_go (B := T5.setTop (mkF m 23 #[.val (.int p0), .val (.int p1), .val (.int v3), .unset, .unset, .unset, .unset, .unset] [(.int (2 : Int32)), (.ref b1), (.ref b1)])) (fun _ k => XS.iconst X5.here hx rfl (hb hby at_22) k) ?_
    refine own_go (B := T5.setTop (mkF m 25 #[.val (.int p0), .val (.int p1), .val (.int v3), .unset, .unset, .unset, .unset, .unset] [(.int (108 : Int32)), (.int (2 : Int32)), (.ref b1), (.ref b1)])) (fun _ k => XS.bipush X5.here hx rfl (hb hby at_23) k) ?_
    obtain ⟨cl6, Ar6, q6, Sz6, Nn6, Hh6, Gg6⟩ := id V5
    have hin6 : ¬ ((2 : Int32) < 0 ∨ cl6.slots.size ≤ ((2 : Int32)).toNatClampNeg) := inb_of Sz6 ⟨by decide, by decide⟩
    obtain ⟨T7, h7, X7, e7, W7, st7⟩ := stC X5 hx hZ e5 Ar6 (j := (2 : Int32)) hin6 (g := (mkF m 25 #[.val (.int p0), .val (.int p1), .val (.int v3), .unset, .unset, .unset, .unset, .unset] [(.int (108 : Int32)), (.int (2 : Int32)), (.ref b1), (.ref b1)])) rfl rfl (hb hby at_25)
    rw [own_nar (c := (108 : Int32)) ⟨by decide, by decide⟩] at W7
    have V7 := Arv.set Ar6 q6 Sz6 Nn6 Hh6 Gg6 (own_nar (c := (108 : Int32)) ⟨by decide, by decide⟩ ▸ fits_nar_char (108 : Int32)) W7 2 rfl (Nat.le_of_ble_eq_true rfl)
    have O7 := O5.wr W7 g_b1
    have N7 := Fr.snoc X7 N5 g_b1
    have K7' : Keep h0 h7 ([] : List Addr) := K5'.wr W7 (Or.inr sz_b1)
    replace V7 : Arv Z h7 b1 k1 .char (5 : Int32) [(.int (97 : Int32)), (.int (108 : Int32)), (.int (108 : Int32)), (.int (0 : Int32)), (.int (0 : Int32))] (.int (0 : Int32)) := V7
    refine own_go (B := T7.setTop (mkF m 26 #[.val (.int p0), .val (.int p1), .val (.int v3), .unset, .unset, .unset, .unset, .unset] [(.ref b1)])) (st7) ?_
    refine own_go (B := T7.setTop (mkF m 27 #[.val (.int p0), .val (.int p1), .val (.int v3), .unset, .unset, .unset, .unset, .unset] [(.ref b1), (.ref b1)])) (fun _ k => XS.dup X7.here hx rfl (hb hby at_26) rfl rfl k) ?_
    refine own_go (B := T7.setTop (mkF m 28 #[.val (.int p0), .val (.int p1), .val (.int v3), .unset, .unset, .unset, .unset, .unset] [(.int (3 : Int32)), (.ref b1), (.ref b1)])) (fun _ k => XS.iconst X7.here hx rfl (hb hby at_27) k) ?_
    refine own_go (B := T7.setTop (mkF m 30 #[.val (.int p0), .val (.int p1), .val (.int v3), .unset, .unset, .unset, .unset, .unset] [(.int (111 : Int32)), (.int (3 : Int32)), (.ref b1), (.ref b1)])) (fun _ k => XS.bipush X7.here hx rfl (hb hby at_28) k) ?_
    obtain ⟨cl8, Ar8, q8, Sz8, Nn8, Hh8, Gg8⟩ := id V7
    have hin8 : ¬ ((3 : Int32) < 0 ∨ cl8.slots.size ≤ ((3 : Int32)).toNatClampNeg) := inb_of Sz8 ⟨by decide, by decide⟩
    obtain ⟨T9, h9, X9, e9, W9, st9⟩ := stC X7 hx hZ e7 Ar8 (j := (3 : Int32)) hin8 (g := (mkF m 30 #[.val (.int p0), .val (.int p1), .val (.int v3), .unset, .unset, .unset, .unset, .unset] [(.int (111 : Int32)), (.int (3 : Int32)), (.ref b1), (.ref b1)])) rfl rfl (hb hby at_30)
    rw [own_nar (c := (111 : Int32)) ⟨by decide, by decide⟩] at W9
    have V9 := Arv.set Ar8 q8 Sz8 Nn8 Hh8 Gg8 (own_nar (c := (111 : Int32)) ⟨by decide, by decide⟩ ▸ fits_nar_char (111 : Int32)) W9 3 rfl (Nat.le_of_ble_eq_true rfl)
    have O9 := O7.wr W9 g_b1
    have N9 := Fr.snoc X9 N7 g_b1
    have K9' : Keep h0 h9 ([] : List Addr) := K7'.wr W9 (Or.inr sz_b1)
    replace V9 : Arv Z h9 b1 k1 .char (5 : Int32) [(.int (97 : Int32)), (.int (108 : Int32)), (.int (108 : Int32)), (.int (111 : Int32)), (.int (0 : Int32))] (.int (0 : Int32)) := V9
    refine own_go (B := T9.setTop (mkF m 31 #[.val (.int p0), .val (.int p1), .val (.int v3), .unset, .unset, .unset, .unset, .unset] [(.ref b1)])) (st9) ?_
    refine own_go (B := T9.setTop (mkF m 32 #[.val (.int p0), .val (.int p1), .val (.int v3), .unset, .unset, .unset, .unset, .unset] [(.ref b1), (.ref b1)])) (fun _ k => XS.dup X9.here hx rfl (hb hby at_31) rfl rfl k) ?_
    refine own_go (B := T9.setTop (mkF m 33 #[.val (.int p0), .val (.int p1), .val (.int v3), .unset, .unset, .unset, .unset, .unset] [(.int (4 : Int32)), (.ref b1), (.ref b1)])) (fun _ k => XS.iconst X9.here hx rfl (hb hby at_32) k) ?_
    refine own_go (B := T9.setTop (mkF m 35 #[.val (.int p0), .val (.int p1), .val (.int v3), .unset, .unset, .unset, .unset, .unset] [(.int (119 : Int32)), (.int (4 : Int32)), (.ref b1), (.ref b1)])) (fun _ k => XS.bipush X9.here hx rfl (hb hby at_33) k) ?_
    obtain ⟨cl10, Ar10, q10, Sz10, Nn10, Hh10, Gg10⟩ := id V9
    have hin10 : ¬ ((4 : Int32) < 0 ∨ cl10.slots.size ≤ ((4 : Int32)).toNatClampNeg) := inb_of Sz10 ⟨by decide, by decide⟩
    obtain ⟨T11, h11, X11, e11, W11, st11⟩ := stC X9 hx hZ e9 Ar10 (j := (4 : Int32)) hin10 (g := (mkF m 35 #[.val (.int p0), .val (.int p1), .val (.int v3), .unset, .unset, .unset, .unset, .unset] [(.int (119 : Int32)), (.int (4 : Int32)), (.ref b1), (.ref b1)])) rfl rfl (hb hby at_35)
    rw [own_nar (c := (119 : Int32)) ⟨by decide, by decide⟩] at W11
    have V11 := Arv.set Ar10 q10 Sz10 Nn10 Hh10 Gg10 (own_nar (c := (119 : Int32)) ⟨by decide, by decide⟩ ▸ fits_nar_char (119 : Int32)) W11 4 rfl (Nat.le_of_ble_eq_true rfl)
    have O11 := O9.wr W11 g_b1
    have N11 := Fr.snoc X11 N9 g_b1
    have K11' : Keep h0 h11 ([] : List Addr) := K9'.wr W11 (Or.inr sz_b1)
    replace V11 : Arv Z h11 b1 k1 .char (5 : Int32) [(.int (97 : Int32)), (.int (108 : Int32)), (.int (108 : Int32)), (.int (111 : Int32)), (.int (119 : Int32))] (.int (0 : Int32)) := V11
    refine own_go (B := T11.setTop (mkF m 36 #[.val (.int p0), .val (.int p1), .val (.int v3), .unset, .unset, .unset, .unset, .unset] [(.ref b1)])) (st11) ?_
    refine own_go (B := T11.setTop (mkF m 37 #[.val (.int p0), .val (.int p1), .val (.int v3), .val (.ref b1), .unset, .unset, .unset, .unset] [])) (fun _ k => XS.astoreN X11.here hx rfl (hb hby at_36) rfl rfl (l' := #[.val (.int p0), .val (.int p1), .val (.int v3), .val (.ref b1), .unset, .unset, .unset, .unset]) rfl k) ?_
    obtain ⟨T12, X12, e12, st12⟩ := getS2 X11 hx hZ hown (host := "") (Or.inl (hw _ (List.mem_of_getElem? (i := 1) rfl))) Via.refl e11 (S_ColumnRule_Kind_ALLOW.ext O11.2) (g := (mkF m 37 #[.val (.int p0), .val (.int p1), .val (.int v3), .val (.ref b1), .unset, .unset, .unset, .unset] [])) rfl (hb hby at_37)
    refine own_go (B := T12.setTop (mkF m 40 #[.val (.int p0), .val (.int p1), .val (.int v3), .val (.ref b1), .unset, .unset, .unset, .unset] [(.ref wA)])) (st12) ?_
    refine own_go (B := T12.setTop (mkF m 42 #[.val (.int p0), .val (.int p1), .val (.int v3), .val (.ref b1), .val (.ref wA), .unset, .unset, .unset] [])) (fun _ k => XS.astore X12.here hx rfl (hb hby at_40) rfl rfl (l' := #[.val (.int p0), .val (.int p1), .val (.int v3), .val (.ref b1), .val (.ref wA), .unset, .unset, .unset]) rfl k) ?_
    refine own_go (B := T12.setTop (mkF m 143 #[.val (.int p0), .val (.int p1), .val (.int v3), .val (.ref b1), .val (.ref wA), .unset, .unset, .unset] [])) (fun _ k => XS.goto X12.here hx rfl (pc0 := 42) (pc' := 143) rfl (hb hby at_42) (by decide) (by decide) k) ?_
    obtain ⟨T13, h13, X13, e13, E13, A13, D13, -, st13⟩ := newO X12 hx hZ hown (hw _ (List.mem_of_getElem? (i := 4) rfl)) (hw _ (List.mem_of_getElem? (i := 5) rfl)) (hw _ (List.mem_of_getElem? (i := 6) rfl)) e12 (g := (mkF m 143 #[.val (.int p0), .val (.int p1), .val (.int v3), .val (.ref b1), .val (.ref wA), .unset, .unset, .unset] [])) rfl (hb hby at_143) (by decide) (by decide)
    obtain ⟨b13, g13⟩ : ∃ z, z = h11.size := ⟨_, rfl⟩
    rw [← g13] at A13 D13 st13
    have g_b13 : n0 ≤ b13 := Nat.le_trans (Nat.le_trans Z0 K11'.1) (Nat.le_of_eq g13.symm)
    have sz_b13 : h0.size ≤ b13 := Nat.le_trans K11'.1 (Nat.le_of_eq g13.symm)
    have ne13_1 : b1 ≠ b13 := Nat.ne_of_lt (Nat.lt_of_lt_of_le V11.lt (Nat.le_of_eq g13.symm))
    have O13 := O11.ext E13
    have K13' : Keep h0 h13 ([] : List Addr) := K11'.ext E13
    have F_coder_b13 : Fld Z h13 b13 "java/lang/String" "coder" "B" (.int (0 : Int32)) := D13 (Or.inr (hw _ (List.mem_of_getElem? (i := 30) rfl))) (ty := .byte) (by decide)
    have F_value_b13 : Fld Z h13 b13 "java/lang/String" "value" "[B" .null := D13 (Or.inr (hw _ (List.mem_of_getElem? (i := 32) rfl))) (ty := (.array .byte)) (by decide)
    refine own_go (B := T13.setTop (mkF m 146 #[.val (.int p0), .val (.int p1), .val (.int v3), .val (.ref b1), .val (.ref wA), .unset, .unset, .unset] [(.ref b13)])) (st13) ?_
    refine own_go (B := T13.setTop (mkF m 147 #[.val (.int p0), .val (.int p1), .val (.int v3), .val (.ref b1), .val (.ref wA), .unset, .unset, .unset] [(.ref b13), (.ref b13)])) (fun _ k => XS.dup X13.here hx rfl (hb hby at_146) rfl rfl k) ?_
    refine own_go (B := T13.setTop (mkF m 148 #[.val (.int p0), .val (.int p1), .val (.int v3), .val (.ref b1), .val (.ref wA), .unset, .unset, .unset] [(.ref b1), (.ref b13), (.ref b13)])) (fun _ k => XS.aloadN X13.here hx rfl (hb hby at_147) rfl rfl k) ?_
    obtain ⟨_, _, ⟨T14, L14, k14, n14⟩, -, X14, ⟨Lc14, hQ14, l14, y14, z14⟩, st14⟩ := X13.specialBack hx (y := (⟨"java/lang/String", "<init>", "([C)V"⟩ : MethodName)) rfl hown (mvT hZ (hw _ (List.mem_of_getElem? (i := 7) rfl))) (mvT hZ (hw _ (List.mem_of_getElem? (i := 8) rfl))) (mvT hZ (hw _ (List.mem_of_getElem? (i := 9) rfl))) (by decide) (own_newS (W := 1) hZ hw 5 n0 g_b13 (Nat.le_trans Z0 K13'.1) A13 F_value_b13 F_coder_b13 (V11.ext E13) (cs := [(97 : Int32), (108 : Int32), (108 : Int32), (111 : Int32), (119 : Int32)]) rfl (S_String_COMPACT_STRINGS.ext O13.2) hzC rfl rfl (by decide) (by decide) (by decide) (by decide) (by decide)) (g := (mkF m 148 #[.val (.int p0), .val (.int p1), .val (.int v3), .val (.ref b1), .val (.ref wA), .unset, .unset, .unset] [(.ref b1), (.ref b13), (.ref b13)])) rfl (by rw [hml]; rfl) (Steps.refl _) (a := b13) (argsL := [(.ref b1)]) (rest := [(.ref b13)]) (lenOf pd_2 rfl) rfl (by show 2 * 0 + _ ≤ _; exact Nat.le_of_eq rfl) (hb hby at_148) (fun _ _ => ⟨rfl, e13, (by decide : 2 + 1 ≤ 24), (by decide : 9 + 5 ≤ 128)⟩)
    dsimp only [Pt.U, Pt.locs, Pt.cells, Pt.slots] at X14 l14 y14 z14 st14 hQ14
    subst l14 y14 z14
    obtain ⟨rfl, N14q, K14, Str_14⟩ := hQ14
    have N14 := Fr.app N11 N14q
    have O14 := O13.keep K14 (allS g_b13 all0)
    have K14' : Keep h0 T14.heap ([] : List Addr) := K13'.trans K14 (allS (Or.inr sz_b13) all0)
    obtain ⟨t15, kb15, Nb15, vs15, Es15, Fv15, Fc15, Vb15, cd15, rg15, ln15⟩ := Str_14
    refine own_go (B := T14.setTop (mkF m 151 #[.val (.int p0), .val (.int p1), .val (.int v3), .val (.ref b1), .val (.ref wA), .unset, .unset, .unset] [(.ref b13)])) (fun _ k => st14.trans k) ?_
    refine own_go (B := T14.setTop (mkF m 153 #[.val (.int p0), .val (.int p1), .val (.int v3), .val (.ref b1), .val (.ref wA), .val (.ref b13), .unset, .unset] [])) (fun _ k => XS.astore X14.here hx rfl (hb hby at_151) rfl rfl (l' := #[.val (.int p0), .val (.int p1), .val (.int v3), .val (.ref b1), .val (.ref wA), .val (.ref b13), .unset, .unset]) rfl k) ?_
    refine own_go (B := T14.setTop (mkF m 155 #[.val (.int p0), .val (.int p1), .val (.int v3), .val (.ref b1), .val (.ref wA), .val (.ref b13), .unset, .unset] [(.ref b13)])) (fun _ k => XS.aload X14.here hx rfl (hb hby at_153) rfl rfl k) ?_
    obtain ⟨_, _, ⟨T16, L16, k16, n16⟩, -, X16, ⟨Lc16, hQ16, l16, y16, z16⟩, st16⟩ := Jvm.LawKit.callS X14 hx (y := (⟨"com/example/rolegraph/rolegraph/ColumnRule$Kind", "of", "(Ljava/lang/String;)Lcom/example/rolegraph/rolegraph/ColumnRule$Kind;"⟩ : MethodName)) hown (mvT hZ (hw _ (List.mem_of_getElem? (i := 33) rfl))) (mvT hZ (hw _ (List.mem_of_getElem? (i := 34) rfl))) (mvT hZ (hw _ (List.mem_of_getElem? (i := 2) rfl))) (mvT hZ (hw _ (List.mem_of_getElem? (i := 35) rfl))) (by decide) (backOf (W := 0) (rm7 l Z a0 hw [] wA wV wD wL wN sA tA sD tD sL tL sN tN k_wV k_tA k_tD k_tL k_tN zC fm G b13 [(97 : Int32), (108 : Int32), (108 : Int32), (111 : Int32), (119 : Int32)] T14.heap n0 (Nat.le_trans Z0 K14'.1) O14 (⟨t15, kb15, Nb15, vs15, Es15, Fv15, Fc15, Vb15, cd15, rg15, ln15⟩ : own_Str Z T14.heap b13 [(97 : Int32), (108 : Int32), (108 : Int32), (111 : Int32), (119 : Int32)]) (Or.inl rfl)) hZ (hw _ (List.mem_of_getElem? (i := 35) rfl)) (hw _ (List.mem_of_getElem? (i := 2) rfl)) (by decide) (by decide)) (g := (mkF m 155 #[.val (.int p0), .val (.int p1), .val (.int v3), .val (.ref b1), .val (.ref wA), .val (.ref b13), .unset, .unset] [(.ref b13)])) rfl (by rw [hml]; rfl) (argsL := [(.ref b13)]) (rest := []) (lenOf pd_3 rfl) rfl (by show 2 * 0 + _ ≤ _; exact Nat.le_of_eq rfl) (hb hby at_155) (fun _ _ => ⟨rfl, rfl, (by decide : 3 + 1 ≤ 24), (by decide : 14 + 4 ≤ 128)⟩)
    dsimp only [Pt.U, Pt.locs, Pt.cells, Pt.slots] at X16 l16 y16 z16 st16 hQ16
    subst l16 y16 z16
    obtain ⟨rfl, N16q, K16⟩ := hQ16
    have N16 := Fr.app N14 N16q
    have O16 := O14.keep K16 all0
    have K16' : Keep h0 T16.heap ([] : List Addr) := K14'.trans K16 all0
    refine own_go (B := T16.setTop (mkF m 158 #[.val (.int p0), .val (.int p1), .val (.int v3), .val (.ref b1), .val (.ref wA), .val (.ref b13), .unset, .unset] [(.ref (own_kind [(97 : Int32), (108 : Int32), (108 : Int32), (111 : Int32), (119 : Int32)] wA wD wL wN))])) (st16) ?_
    rw [show own_kind [(97 : Int32), (108 : Int32), (108 : Int32), (111 : Int32), (119 : Int32)] wA wD wL wN = wA from by simp [own_kind]]
    refine own_go (B := T16.setTop (mkF m 160 #[.val (.int p0), .val (.int p1), .val (.int v3), .val (.ref b1), .val (.ref wA), .val (.ref b13), .val (.ref wA), .unset] [])) (fun _ k => XS.astore X16.here hx rfl (hb hby at_158) rfl rfl (l' := #[.val (.int p0), .val (.int p1), .val (.int v3), .val (.ref b1), .val (.ref wA), .val (.ref b13), .val (.ref wA), .unset]) rfl k) ?_
    refine own_go (B := T16.setTop (mkF m 162 #[.val (.int p0), .val (.int p1), .val (.int v3), .val (.ref b1), .val (.ref wA), .val (.ref b13), .val (.ref wA), .unset] [(.ref wA)])) (fun _ k => XS.aload X16.here hx rfl (hb hby at_160) rfl rfl k) ?_
    refine own_go (B := T16.setTop (mkF m 164 #[.val (.int p0), .val (.int p1), .val (.int v3), .val (.ref b1), .val (.ref wA), .val (.ref b13), .val (.ref wA), .unset] [(.ref wA), (.ref wA)])) (fun _ k => XS.aload X16.here hx rfl (hb hby at_162) rfl rfl k) ?_
    refine own_go (B := T16.setTop (mkF m 167 #[.val (.int p0), .val (.int p1), .val (.int v3), .val (.ref b1), .val (.ref wA), .val (.ref b13), .val (.ref wA), .unset] [])) (fun _ k => Jvm.RoadKit.acmp (g := (mkF m 164 #[.val (.int p0), .val (.int p1), .val (.int v3), .val (.ref b1), .val (.ref wA), .val (.ref b13), .val (.ref wA), .unset] [(.ref wA), (.ref wA)])) X16 hx rfl rfl rfl (pc0 := 164) (pc' := 167) (same := true) rfl (hb hby at_164) rfl (decide_eq_true rfl) (by decide) (by decide) k) ?_
    refine own_go (B := T16.setTop (mkF m 168 #[.val (.int p0), .val (.int p1), .val (.int v3), .val (.ref b1), .val (.ref wA), .val (.ref b13), .val (.ref wA), .unset] [(.int (1 : Int32))])) (fun _ k => XS.iconst X16.here hx rfl (hb hby at_167) k) ?_
    refine own_go (B := T16.setTop (mkF m 172 #[.val (.int p0), .val (.int p1), .val (.int v3), .val (.ref b1), .val (.ref wA), .val (.ref b13), .val (.ref wA), .unset] [(.int (1 : Int32))])) (fun _ k => XS.goto X16.here hx rfl (pc0 := 168) (pc' := 172) rfl (hb hby at_168) (by decide) (by decide) k) ?_
    refine own_go (B := T16.setTop (mkF m 174 #[.val (.int p0), .val (.int p1), .val (.int v3), .val (.ref b1), .val (.ref wA), .val (.ref b13), .val (.ref wA), .val (.int (1 : Int32))] [])) (fun _ k => XS.istore X16.here hx rfl (hb hby at_172) rfl (l' := #[.val (.int p0), .val (.int p1), .val (.int v3), .val (.ref b1), .val (.ref wA), .val (.ref b13), .val (.ref wA), .val (.int (1 : Int32))]) rfl k) ?_
    refine own_go (B := T16.setTop (mkF m 175 #[.val (.int p0), .val (.int p1), .val (.int v3), .val (.ref b1), .val (.ref wA), .val (.ref b13), .val (.ref wA), .val (.int (1 : Int32))] [(.int p1)])) (fun _ k => XS.iloadN X16.here hx rfl (hb hby at_174) rfl k) ?_
    refine own_go (B := T16.setTop (mkF m 176 #[.val (.int p0), .val (.int p1), .val (.int v3), .val (.ref b1), .val (.ref wA), .val (.ref b13), .val (.ref wA), .val (.int (1 : Int32))] [(.int (1 : Int32)), (.int p1)])) (fun _ k => XS.iconst X16.here hx rfl (hb hby at_175) k) ?_
    refine own_go (B := T16.setTop (mkF m 177 #[.val (.int p0), .val (.int p1), .val (.int v3), .val (.ref b1), .val (.ref wA), .val (.ref b13), .val (.ref wA), .val (.int (1 : Int32))] [(.int (p1 &&& (1 : Int32)))])) (fun _ k => XS.iand X16.here hx rfl (hb hby at_176) rfl k) ?_
    by_cases hc177 : (p1 &&& (1 : Int32)) = (0 : Int32)
    · refine own_go (B := T16.setTop (mkF m 205 #[.val (.int p0), .val (.int p1), .val (.int v3), .val (.ref b1), .val (.ref wA), .val (.ref b13), .val (.ref wA), .val (.int (1 : Int32))] [])) (fun _ k => XS.ifYes X16.here hx rfl (pc0 := 177) (pc' := 205) rfl (hb hby at_177) rfl ((if0 _ _).trans (teq hc177).1) (by decide) (by decide) k) ?_
      refine own_go (B := T16.setTop (mkF m 207 #[.val (.int p0), .val (.int p1), .val (.int v3), .val (.ref b1), .val (.ref wA), .val (.ref b13), .val (.ref wA), .val (.int (1 : Int32))] [(.int (1 : Int32))])) (fun _ k => XS.iload X16.here hx rfl (hb hby at_205) rfl k) ?_
      obtain ⟨fs, hr, hrun, hended, hW, hsame⟩ := X16.leave (v := some (.int (nar .boolean (1 : Int32)))) (fun h => by rw [Bd.returns] at h; cases h)
      refine ⟨_, _, retN X16 hx (t := .boolean) Bd.returns (by simp) (hb hby at_207) hr, hrun, hended, _, _, rfl, ?_, ⟨_, rfl⟩, hW, hsame.mono (by decide) (by decide)⟩
      show Q_rm0 Z wA wV wD wL wN sA tA sD tD sL tL sN tN k_wV k_tA k_tD k_tL k_tN zC fm p0 p1 h0 n0 _ T16.heap _
      exact ⟨rfl, N16⟩
    · refine own_go (B := T16.setTop (mkF m 180 #[.val (.int p0), .val (.int p1), .val (.int v3), .val (.ref b1), .val (.ref wA), .val (.ref b13), .val (.ref wA), .val (.int (1 : Int32))] [])) (fun _ k => XS.ifNo X16.here hx rfl (hb hby at_177) rfl ((if0 _ _).trans (feq hc177).1) k) ?_
      refine own_go (B := T16.setTop (mkF m 182 #[.val (.int p0), .val (.int p1), .val (.int v3), .val (.ref b1), .val (.ref wA), .val (.ref b13), .val (.ref wA), .val (.int (1 : Int32))] [(.int (1 : Int32))])) (fun _ k => XS.iload X16.here hx rfl (hb hby at_180) rfl k) ?_
      refine own_go (B := T16.setTop (mkF m 185 #[.val (.int p0), .val (.int p1), .val (.int v3), .val (.ref b1), .val (.ref wA), .val (.ref b13), .val (.ref wA), .val (.int (1 : Int32))] [])) (fun _ k => XS.ifNo X16.here hx rfl (hb hby at_182) rfl ((if0 _ _).trans (feq (by decide : ¬ ((1 : Int32) = (0 : Int32)))).1) k) ?_
      refine own_go (B := T16.setTop (mkF m 187 #[.val (.int p0), .val (.int p1), .val (.int v3), .val (.ref b1), .val (.ref wA), .val (.ref b13), .val (.ref wA), .val (.int (1 : Int32))] [(.ref wA)])) (fun _ k => XS.aload X16.here hx rfl (hb hby at_185) rfl rfl k) ?_
      obtain ⟨T17, X17, e17, st17⟩ := getF X16 hx hZ hown (host := "") (Or.inl (hw _ (List.mem_of_getElem? (i := 66) rfl))) Via.refl rfl (F_word_wA.ext O16.2) (g := (mkF m 187 #[.val (.int p0), .val (.int p1), .val (.int v3), .val (.ref b1), .val (.ref wA), .val (.ref b13), .val (.ref wA), .val (.int (1 : Int32))] [(.ref wA)])) rfl rfl (hb hby at_187)
      refine own_go (B := T17.setTop (mkF m 190 #[.val (.int p0), .val (.int p1), .val (.int v3), .val (.ref b1), .val (.ref wA), .val (.ref b13), .val (.ref wA), .val (.int (1 : Int32))] [(.ref sA)])) (st17) ?_
      obtain ⟨_, _, ⟨T18, L18, k18, n18⟩, -, X18, ⟨Lc18, hQ18, l18, y18, z18⟩, st18⟩ := Jvm.LawKit.callS X17 hx (y := (⟨"com/example/rolegraph/rolegraph/ColumnRule$Kind", "of", "(Ljava/lang/String;)Lcom/example/rolegraph/rolegraph/ColumnRule$Kind;"⟩ : MethodName)) hown (mvT hZ (hw _ (List.mem_of_getElem? (i := 33) rfl))) (mvT hZ (hw _ (List.mem_of_getElem? (i := 34) rfl))) (mvT hZ (hw _ (List.mem_of_getElem? (i := 2) rfl))) (mvT hZ (hw _ (List.mem_of_getElem? (i := 35) rfl))) (by decide) (backOf (W := 0) (rm7 l Z a0 hw [] wA wV wD wL wN sA tA sD tD sL tL sN tN k_wV k_tA k_tD k_tL k_tN zC fm G sA [(97 : Int32), (108 : Int32), (108 : Int32), (111 : Int32), (119 : Int32)] T16.heap n0 (Nat.le_trans Z0 K16'.1) O16 (own_Str_ext O16.2 Sx_sA) (Or.inl rfl)) hZ (hw _ (List.mem_of_getElem? (i := 35) rfl)) (hw _ (List.mem_of_getElem? (i := 2) rfl)) (by decide) (by decide)) (g := (mkF m 190 #[.val (.int p0), .val (.int p1), .val (.int v3), .val (.ref b1), .val (.ref wA), .val (.ref b13), .val (.ref wA), .val (.int (1 : Int32))] [(.ref sA)])) rfl (by rw [hml]; rfl) (argsL := [(.ref sA)]) (rest := []) (lenOf pd_3 rfl) rfl (by show 2 * 0 + _ ≤ _; exact Nat.le_of_eq rfl) (hb hby at_190) (fun _ _ => ⟨rfl, e17, (by decide : 4 + 1 ≤ 24), (by decide : 18 + 4 ≤ 128)⟩)
      dsimp only [Pt.U, Pt.locs, Pt.cells, Pt.slots] at X18 l18 y18 z18 st18 hQ18
      subst l18 y18 z18
      obtain ⟨rfl, N18q, K18⟩ := hQ18
      have N18 := Fr.app N16 N18q
      have O18 := O16.keep K18 all0
      have K18' : Keep h0 T18.heap ([] : List Addr) := K16'.trans K18 all0
      refine own_go (B := T18.setTop (mkF m 193 #[.val (.int p0), .val (.int p1), .val (.int v3), .val (.ref b1), .val (.ref wA), .val (.ref b13), .val (.ref wA), .val (.int (1 : Int32))] [(.ref (own_kind [(97 : Int32), (108 : Int32), (108 : Int32), (111 : Int32), (119 : Int32)] wA wD wL wN))])) (st18) ?_
      rw [show own_kind [(97 : Int32), (108 : Int32), (108 : Int32), (111 : Int32), (119 : Int32)] wA wD wL wN = wA from by simp [own_kind]]
      refine own_go (B := T18.setTop (mkF m 195 #[.val (.int p0), .val (.int p1), .val (.int v3), .val (.ref b1), .val (.ref wA), .val (.ref b13), .val (.ref wA), .val (.int (1 : Int32))] [(.ref wA), (.ref wA)])) (fun _ k => XS.aload X18.here hx rfl (hb hby at_193) rfl rfl k) ?_
      refine own_go (B := T18.setTop (mkF m 198 #[.val (.int p0), .val (.int p1), .val (.int v3), .val (.ref b1), .val (.ref wA), .val (.ref b13), .val (.ref wA), .val (.int (1 : Int32))] [])) (fun _ k => Jvm.RoadKit.acmp (g := (mkF m 195 #[.val (.int p0), .val (.int p1), .val (.int v3), .val (.ref b1), .val (.ref wA), .val (.ref b13), .val (.ref wA), .val (.int (1 : Int32))] [(.ref wA), (.ref wA)])) X18 hx rfl rfl rfl (pc0 := 195) (pc' := 198) (same := true) rfl (hb hby at_195) rfl (decide_eq_true rfl) (by decide) (by decide) k) ?_
      refine own_go (B := T18.setTop (mkF m 199 #[.val (.int p0), .val (.int p1), .val (.int v3), .val (.ref b1), .val (.ref wA), .val (.ref b13), .val (.ref wA), .val (.int (1 : Int32))] [(.int (1 : Int32))])) (fun _ k => XS.iconst X18.here hx rfl (hb hby at_198) k) ?_
      refine own_go (B := T18.setTop (mkF m 203 #[.val (.int p0), .val (.int p1), .val (.int v3), .val (.ref b1), .val (.ref wA), .val (.ref b13), .val (.ref wA), .val (.int (1 : Int32))] [(.int (1 : Int32))])) (fun _ k => XS.goto X18.here hx rfl (pc0 := 199) (pc' := 203) rfl (hb hby at_199) (by decide) (by decide) k) ?_
      refine own_go (B := T18.setTop (mkF m 205 #[.val (.int p0), .val (.int p1), .val (.int v3), .val (.ref b1), .val (.ref wA), .val (.ref b13), .val (.ref wA), .val (.int (1 : Int32))] [])) (fun _ k => XS.istore X18.here hx rfl (hb hby at_203) rfl (l' := #[.val (.int p0), .val (.int p1), .val (.int v3), .val (.ref b1), .val (.ref wA), .val (.ref b13), .val (.ref wA), .val (.int (1 : Int32))]) rfl k) ?_
      refine own_go (B := T18.setTop (mkF m 207 #[.val (.int p0), .val (.int p1), .val (.int v3), .val (.ref b1), .val (.ref wA), .val (.ref b13), .val (.ref wA), .val (.int (1 : Int32))] [(.int (1 : Int32))])) (fun _ k => XS.iload X18.here hx rfl (hb hby at_205) rfl k) ?_
      obtain ⟨fs, hr, hrun, hended, hW, hsame⟩ := X18.leave (v := some (.int (nar .boolean (1 : Int32)))) (fun h => by rw [Bd.returns] at h; cases h)
      refine ⟨_, _, retN X18 hx (t := .boolean) Bd.returns (by simp) (hb hby at_207) hr, hrun, hended, _, _, rfl, ?_, ⟨_, rfl⟩, hW, hsame.mono (by decide) (by decide)⟩
      show Q_rm0 Z wA wV wD wL wN sA tA sD tD sL tL sN tN k_wV k_tA k_tD k_tL k_tN zC fm p0 p1 h0 n0 _ T18.heap _
      exact ⟨rfl, N18⟩
  · refine own_go (B := s₁.setTop (mkF m 45 #[.val (.int p0), .val (.int p1), .val (.int v3), .unset, .unset, .unset, .unset, .unset] [])) (fun _ k => XS.ifYes X0.here hx rfl (pc0 := 5) (pc' := 45) rfl (hb hby at_5) rfl ((if0 _ _).trans (feq hc5).2) (by decide) (by decide) k) ?_
    refine own_go (B := s₁.setTop (mkF m 46 #[.val (.int p0), .val (.int p1), .val (.int v3), .unset, .unset, .unset, .unset, .unset] [(.int v3)])) (fun _ k => XS.iloadN X0.here hx rfl (hb hby at_45) rfl k) ?_
    refine own_go (B := s₁.setTop (mkF m 47 #[.val (.int p0), .val (.int p1), .val (.int v3), .unset, .unset, .unset, .unset, .unset] [(.int (1 : Int32)), (.int v3)])) (fun _ k => XS.iconst X0.here hx rfl (hb hby at_46) k) ?_
    by_cases hc47 : v3 = (1 : Int32)
    · refine own_go (B := s₁.setTop (mkF m 50 #[.val (.int p0), .val (.int p1), .val (.int v3), .unset, .unset, .unset, .unset, .unset] [])) (fun _ k => XS.icmpNo X0.here hx rfl (hb hby at_47) rfl (teq hc47).2 k) ?_
      refine own_go (B := s₁.setTop (mkF m 51 #[.val (.int p0), .val (.int p1), .val (.int v3), .unset, .unset, .unset, .unset, .unset] [(.int (4 : Int32))])) (fun _ k => XS.iconst X0.here hx rfl (hb hby at_50) k) ?_
      obtain ⟨T19, h19, k19, X19, e19, E19, A19, st19⟩ := newP X0 hx hZ (hw _ (List.mem_of_getElem? (i := 0) rfl)) e0 (g := (mkF m 51 #[.val (.int p0), .val (.int p1), .val (.int v3), .unset, .unset, .unset, .unset, .unset] [(.int (4 : Int32))])) rfl (hb hby at_51) rfl (by decide) (cap := 4) (by decide) (by decide) (by decide) (by decide)
      obtain ⟨b19, g19⟩ : ∃ z, z = h0.size := ⟨_, rfl⟩
      rw [← g19] at A19 st19
      have g_b19 : n0 ≤ b19 := Nat.le_trans (Nat.le_trans Z0 K0.1) (Nat.le_of_eq g19.symm)
      have sz_b19 : h0.size ≤ b19 := Nat.le_trans K0.1 (Nat.le_of_eq g19.symm)
      have O19 := O0.ext E19
      have K19' : Keep h0 h19 ([] : List Addr) := K0.ext E19
      have V_b19 : Arv Z h19 b19 k19 .char (4 : Int32) [(.int (0 : Int32)), (.int (0 : Int32)), (.int (0 : Int32)), (.int (0 : Int32))] (.int (0 : Int32)) := (Arv.new A19 (by decide)).pad (pad_rep [] (.int (0 : Int32)) 4)
      refine own_go (B := T19.setTop (mkF m 53 #[.val (.int p0), .val (.int p1), .val (.int v3), .unset, .unset, .unset, .unset, .unset] [(.ref b19)])) (st19) ?_
      refine own_go (B := T19.setTop (mkF m 54 #[.val (.int p0), .val (.int p1), .val (.int v3), .unset, .unset, .unset, .unset, .unset] [(.ref b19), (.ref b19)])) (fun _ k => XS.dup X19.here hx rfl (hb hby at_53) rfl rfl k) ?_
      refine own_go (B := T19.setTop (mkF m 55 #[.val (.int p0), .val (.int p1), .val (.int v3), .unset, .unset, .unset, .unset, .unset] [(.int (0 : Int32)), (.ref b19), (.ref b19)])) (fun _ k => XS.iconst X19.here hx rfl (hb hby at_54) k) ?_
      refine own_go (B := T19.setTop (mkF m 57 #[.val (.int p0), .val (.int p1), .val (.int v3), .unset, .unset, .unset, .unset, .unset] [(.int (100 : Int32)), (.int (0 : Int32)), (.ref b19), (.ref b19)])) (fun _ k => XS.bipush X19.here hx rfl (hb hby at_55) k) ?_
      obtain ⟨cl20, Ar20, q20, Sz20, Nn20, Hh20, Gg20⟩ := id V_b19
      have hin20 : ¬ ((0 : Int32) < 0 ∨ cl20.slots.size ≤ ((0 : Int32)).toNatClampNeg) := inb_of Sz20 ⟨by decide, by decide⟩
      obtain ⟨T21, h21, X21, e21, W21, st21⟩ := stC X19 hx hZ e19 Ar20 (j := (0 : Int32)) hin20 (g := (mkF m 57 #[.val (.int p0), .val (.int p1), .val (.int v3), .unset, .unset, .unset, .unset, .unset] [(.int (100 : Int32)), (.int (0 : Int32)), (.ref b19), (.ref b19)])) rfl rfl (hb hby at_57)
      rw [own_nar (c := (100 : Int32)) ⟨by decide, by decide⟩] at W21
      have V21 := Arv.set Ar20 q20 Sz20 Nn20 Hh20 Gg20 (own_nar (c := (100 : Int32)) ⟨by decide, by decide⟩ ▸ fits_nar_char (100 : Int32)) W21 0 rfl (Nat.le_of_ble_eq_true rfl)
      have O21 := O19.wr W21 g_b19
      have N21 := Fr.snoc X21 N0 g_b19
      have K21' : Keep h0 h21 ([] : List Addr) := K19'.wr W21 (Or.inr sz_b19)
      replace V21 : Arv Z h21 b19 k19 .char (4 : Int32) [(.int (100 : Int32)), (.int (0 : Int32)), (.int (0 : Int32)), (.int (0 : Int32))] (.int (0 : Int32)) := V21
      refine own_go (B := T21.setTop (mkF m 58 #[.val (.int p0), .val (.int p1), .val (.int v3), .unset, .unset, .unset, .unset, .unset] [(.ref b19)])) (st21) ?_
      refine own_go (B := T21.setTop (mkF m 59 #[.val (.int p0), .val (.int p1), .val (.int v3), .unset, .unset, .unset, .unset, .unset] [(.ref b19), (.ref b19)])) (fun _ k => XS.dup X21.here hx rfl (hb hby at_58) rfl rfl k) ?_
      refine own_go (B := T21.setTop (mkF m 60 #[.val (.int p0), .val (.int p1), .val (.int v3), .unset, .unset, .unset, .unset, .unset] [(.int (1 : Int32)), (.ref b19), (.ref b19)])) (fun _ k => XS.iconst X21.here hx rfl (hb hby at_59) k) ?_
      refine own_go (B := T21.setTop (mkF m 62 #[.val (.int p0), .val (.int p1), .val (.int v3), .unset, .unset, .unset, .unset, .unset] [(.int (101 : Int32)), (.int (1 : Int32)), (.ref b19), (.ref b19)])) (fun _ k => XS.bipush X21.here hx rfl (hb hby at_60) k) ?_
      obtain ⟨cl22, Ar22, q22, Sz22, Nn22, Hh22, Gg22⟩ := id V21
      have hin22 : ¬ ((1 : Int32) < 0 ∨ cl22.slots.size ≤ ((1 : Int32)).toNatClampNeg) := inb_of Sz22 ⟨by decide, by decide⟩
      obtain ⟨T23, h23, X23, e23, W23, st23⟩ := stC X21 hx hZ e21 Ar22 (j := (1 : Int32)) hin22 (g := (mkF m 62 #[.val (.int p0), .val (.int p1), .val (.int v3), .unset, .unset, .unset, .unset, .unset] [(.int (101 : Int32)), (.int (1 : Int32)), (.ref b19), (.ref b19)])) rfl rfl (hb hby at_62)
      rw [own_nar (c := (101 : Int32)) ⟨by decide, by decide⟩] at W23
      have V23 := Arv.set Ar22 q22 Sz22 Nn22 Hh22 Gg22 (own_nar (c := (101 : Int32)) ⟨by decide, by decide⟩ ▸ fits_nar_char (101 : Int32)) W23 1 rfl (Nat.le_of_ble_eq_true rfl)
      have O23 := O21.wr W23 g_b19
      have N23 := Fr.snoc X23 N21 g_b19
      have K23' : Keep h0 h23 ([] : List Addr) := K21'.wr W23 (Or.inr sz_b19)
      replace V23 : Arv Z h23 b19 k19 .char (4 : Int32) [(.int (100 : Int32)), (.int (101 : Int32)), (.int (0 : Int32)), (.int (0 : Int32))] (.int (0 : Int32)) := V23
      refine own_go (B := T23.setTop (mkF m 63 #[.val (.int p0), .val (.int p1), .val (.int v3), .unset, .unset, .unset, .unset, .unset] [(.ref b19)])) (st23) ?_
      refine own_go (B := T23.setTop (mkF m 64 #[.val (.int p0), .val (.int p1), .val (.int v3), .unset, .unset, .unset, .unset, .unset] [(.ref b19), (.ref b19)])) (fun _ k => XS.dup X23.here hx rfl (hb hby at_63) rfl rfl k) ?_
      refine own_go (B := T23.setTop (mkF m 65 #[.val (.int p0), .val (.int p1), .val (.int v3), .unset, .unset, .unset, .unset, .unset] [(.int (2 : Int32)), (.ref b19), (.ref b19)])) (fun _ k => XS.iconst X23.here hx rfl (hb hby at_64) k) ?_
      refine own_go (B := T23.setTop (mkF m 67 #[.val (.int p0), .val (.int p1), .val (.int v3), .unset, .unset, .unset, .unset, .unset] [(.int (110 : Int32)), (.int (2 : Int32)), (.ref b19), (.ref b19)])) (fun _ k => XS.bipush X23.here hx rfl (hb hby at_65) k) ?_
      obtain ⟨cl24, Ar24, q24, Sz24, Nn24, Hh24, Gg24⟩ := id V23
      have hin24 : ¬ ((2 : Int32) < 0 ∨ cl24.slots.size ≤ ((2 : Int32)).toNatClampNeg) := inb_of Sz24 ⟨by decide, by decide⟩
      obtain ⟨T25, h25, X25, e25, W25, st25⟩ := stC X23 hx hZ e23 Ar24 (j := (2 : Int32)) hin24 (g := (mkF m 67 #[.val (.int p0), .val (.int p1), .val (.int v3), .unset, .unset, .unset, .unset, .unset] [(.int (110 : Int32)), (.int (2 : Int32)), (.ref b19), (.ref b19)])) rfl rfl (hb hby at_67)
      rw [own_nar (c := (110 : Int32)) ⟨by decide, by decide⟩] at W25
      have V25 := Arv.set Ar24 q24 Sz24 Nn24 Hh24 Gg24 (own_nar (c := (110 : Int32)) ⟨by decide, by decide⟩ ▸ fits_nar_char (110 : Int32)) W25 2 rfl (Nat.le_of_ble_eq_true rfl)
      have O25 := O23.wr W25 g_b19
      have N25 := Fr.snoc X25 N23 g_b19
      have K25' : Keep h0 h25 ([] : List Addr) := K23'.wr W25 (Or.inr sz_b19)
      replace V25 : Arv Z h25 b19 k19 .char (4 : Int32) [(.int (100 : Int32)), (.int (101 : Int32)), (.int (110 : Int32)), (.int (0 : Int32))] (.int (0 : Int32)) := V25
      refine own_go (B := T25.setTop (mkF m 68 #[.val (.int p0), .val (.int p1), .val (.int v3), .unset, .unset, .unset, .unset, .unset] [(.ref b19)])) (st25) ?_
      refine own_go (B := T25.setTop (mkF m 69 #[.val (.int p0), .val (.int p1), .val (.int v3), .unset, .unset, .unset, .unset, .unset] [(.ref b19), (.ref b19)])) (fun _ k => XS.dup X25.here hx rfl (hb hby at_68) rfl rfl k) ?_
      refine own_go (B := T25.setTop (mkF m 70 #[.val (.int p0), .val (.int p1), .val (.int v3), .unset, .unset, .unset, .unset, .unset] [(.int (3 : Int32)), (.ref b19), (.ref b19)])) (fun _ k => XS.iconst X25.here hx rfl (hb hby at_69) k) ?_
      refine own_go (B := T25.setTop (mkF m 72 #[.val (.int p0), .val (.int p1), .val (.int v3), .unset, .unset, .unset, .unset, .unset] [(.int (121 : Int32)), (.int (3 : Int32)), (.ref b19), (.ref b19)])) (fun _ k => XS.bipush X25.here hx rfl (hb hby at_70) k) ?_
      obtain ⟨cl26, Ar26, q26, Sz26, Nn26, Hh26, Gg26⟩ := id V25
      have hin26 : ¬ ((3 : Int32) < 0 ∨ cl26.slots.size ≤ ((3 : Int32)).toNatClampNeg) := inb_of Sz26 ⟨by decide, by decide⟩
      obtain ⟨T27, h27, X27, e27, W27, st27⟩ := stC X25 hx hZ e25 Ar26 (j := (3 : Int32)) hin26 (g := (mkF m 72 #[.val (.int p0), .val (.int p1), .val (.int v3), .unset, .unset, .unset, .unset, .unset] [(.int (121 : Int32)), (.int (3 : Int32)), (.ref b19), (.ref b19)])) rfl rfl (hb hby at_72)
      rw [own_nar (c := (121 : Int32)) ⟨by decide, by decide⟩] at W27
      have V27 := Arv.set Ar26 q26 Sz26 Nn26 Hh26 Gg26 (own_nar (c := (121 : Int32)) ⟨by decide, by decide⟩ ▸ fits_nar_char (121 : Int32)) W27 3 rfl (Nat.le_of_ble_eq_true rfl)
      have O27 := O25.wr W27 g_b19
      have N27 := Fr.snoc X27 N25 g_b19
      have K27' : Keep h0 h27 ([] : List Addr) := K25'.wr W27 (Or.inr sz_b19)
      replace V27 : Arv Z h27 b19 k19 .char (4 : Int32) [(.int (100 : Int32)), (.int (101 : Int32)), (.int (110 : Int32)), (.int (121 : Int32))] (.int (0 : Int32)) := V27
      refine own_go (B := T27.setTop (mkF m 73 #[.val (.int p0), .val (.int p1), .val (.int v3), .unset, .unset, .unset, .unset, .unset] [(.ref b19)])) (st27) ?_
      refine own_go (B := T27.setTop (mkF m 74 #[.val (.int p0), .val (.int p1), .val (.int v3), .val (.ref b19), .unset, .unset, .unset, .unset] [])) (fun _ k => XS.astoreN X27.here hx rfl (hb hby at_73) rfl rfl (l' := #[.val (.int p0), .val (.int p1), .val (.int v3), .val (.ref b19), .unset, .unset, .unset, .unset]) rfl k) ?_
      obtain ⟨T28, X28, e28, st28⟩ := getS2 X27 hx hZ hown (host := "") (Or.inl (hw _ (List.mem_of_getElem? (i := 68) rfl))) Via.refl e27 (S_ColumnRule_Kind_DENY.ext O27.2) (g := (mkF m 74 #[.val (.int p0), .val (.int p1), .val (.int v3), .val (.ref b19), .unset, .unset, .unset, .unset] [])) rfl (hb hby at_74)
      refine own_go (B := T28.setTop (mkF m 77 #[.val (.int p0), .val (.int p1), .val (.int v3), .val (.ref b19), .unset, .unset, .unset, .unset] [(.ref wD)])) (st28) ?_
      refine own_go (B := T28.setTop (mkF m 79 #[.val (.int p0), .val (.int p1), .val (.int v3), .val (.ref b19), .val (.ref wD), .unset, .unset, .unset] [])) (fun _ k => XS.astore X28.here hx rfl (hb hby at_77) rfl rfl (l' := #[.val (.int p0), .val (.int p1), .val (.int v3), .val (.ref b19), .val (.ref wD), .unset, .unset, .unset]) rfl k) ?_
      refine own_go (B := T28.setTop (mkF m 143 #[.val (.int p0), .val (.int p1), .val (.int v3), .val (.ref b19), .val (.ref wD), .unset, .unset, .unset] [])) (fun _ k => XS.goto X28.here hx rfl (pc0 := 79) (pc' := 143) rfl (hb hby at_79) (by decide) (by decide) k) ?_
      obtain ⟨T29, h29, X29, e29, E29, A29, D29, -, st29⟩ := newO X28 hx hZ hown (hw _ (List.mem_of_getElem? (i := 4) rfl)) (hw _ (List.mem_of_getElem? (i := 5) rfl)) (hw _ (List.mem_of_getElem? (i := 6) rfl)) e28 (g := (mkF m 143 #[.val (.int p0), .val (.int p1), .val (.int v3), .val (.ref b19), .val (.ref wD), .unset, .unset, .unset] [])) rfl (hb hby at_143) (by decide) (by decide)
      obtain ⟨b29, g29⟩ : ∃ z, z = h27.size := ⟨_, rfl⟩
      rw [← g29] at A29 D29 st29
      have g_b29 : n0 ≤ b29 := Nat.le_trans (Nat.le_trans Z0 K27'.1) (Nat.le_of_eq g29.symm)
      have sz_b29 : h0.size ≤ b29 := Nat.le_trans K27'.1 (Nat.le_of_eq g29.symm)
      have ne29_1 : b19 ≠ b29 := Nat.ne_of_lt (Nat.lt_of_lt_of_le V27.lt (Nat.le_of_eq g29.symm))
      have O29 := O27.ext E29
      have K29' : Keep h0 h29 ([] : List Addr) := K27'.ext E29
      have F_coder_b29 : Fld Z h29 b29 "java/lang/String" "coder" "B" (.int (0 : Int32)) := D29 (Or.inr (hw _ (List.mem_of_getElem? (i := 30) rfl))) (ty := .byte) (by decide)
      have F_value_b29 : Fld Z h29 b29 "java/lang/String" "value" "[B" .null := D29 (Or.inr (hw _ (List.mem_of_getElem? (i := 32) rfl))) (ty := (.array .byte)) (by decide)
      refine own_go (B := T29.setTop (mkF m 146 #[.val (.int p0), .val (.int p1), .val (.int v3), .val (.ref b19), .val (.ref wD), .unset, .unset, .unset] [(.ref b29)])) (st29) ?_
      refine own_go (B := T29.setTop (mkF m 147 #[.val (.int p0), .val (.int p1), .val (.int v3), .val (.ref b19), .val (.ref wD), .unset, .unset, .unset] [(.ref b29), (.ref b29)])) (fun _ k => XS.dup X29.here hx rfl (hb hby at_146) rfl rfl k) ?_
      refine own_go (B := T29.setTop (mkF m 148 #[.val (.int p0), .val (.int p1), .val (.int v3), .val (.ref b19), .val (.ref wD), .unset, .unset, .unset] [(.ref b19), (.ref b29), (.ref b29)])) (fun _ k => XS.aloadN X29.here hx rfl (hb hby at_147) rfl rfl k) ?_
      obtain ⟨_, _, ⟨T30, L30, k30, n30⟩, -, X30, ⟨Lc30, hQ30, l30, y30, z30⟩, st30⟩ := X29.specialBack hx (y := (⟨"java/lang/String", "<init>", "([C)V"⟩ : MethodName)) rfl hown (mvT hZ (hw _ (List.mem_of_getElem? (i := 7) rfl))) (mvT hZ (hw _ (List.mem_of_getElem? (i := 8) rfl))) (mvT hZ (hw _ (List.mem_of_getElem? (i := 9) rfl))) (by decide) (own_newS (W := 1) hZ hw 4 n0 g_b29 (Nat.le_trans Z0 K29'.1) A29 F_value_b29 F_coder_b29 (V27.ext E29) (cs := [(100 : Int32), (101 : Int32), (110 : Int32), (121 : Int32)]) rfl (S_String_COMPACT_STRINGS.ext O29.2) hzC rfl rfl (by decide) (by decide) (by decide) (by decide) (by decide)) (g := (mkF m 148 #[.val (.int p0), .val (.int p1), .val (.int v3), .val (.ref b19), .val (.ref wD), .unset, .unset, .unset] [(.ref b19), (.ref b29), (.ref b29)])) rfl (by rw [hml]; rfl) (Steps.refl _) (a := b29) (argsL := [(.ref b19)]) (rest := [(.ref b29)]) (lenOf pd_2 rfl) rfl (by show 2 * 0 + _ ≤ _; exact Nat.le_of_eq rfl) (hb hby at_148) (fun _ _ => ⟨rfl, e29, (by decide : 2 + 1 ≤ 24), (by decide : 8 + 4 ≤ 128)⟩)
      dsimp only [Pt.U, Pt.locs, Pt.cells, Pt.slots] at X30 l30 y30 z30 st30 hQ30
      subst l30 y30 z30
      obtain ⟨rfl, N30q, K30, Str_30⟩ := hQ30
      have N30 := Fr.app N27 N30q
      have O30 := O29.keep K30 (allS g_b29 all0)
      have K30' : Keep h0 T30.heap ([] : List Addr) := K29'.trans K30 (allS (Or.inr sz_b29) all0)
      obtain ⟨t31, kb31, Nb31, vs31, Es31, Fv31, Fc31, Vb31, cd31, rg31, ln31⟩ := Str_30
      refine own_go (B := T30.setTop (mkF m 151 #[.val (.int p0), .val (.int p1), .val (.int v3), .val (.ref b19), .val (.ref wD), .unset, .unset, .unset] [(.ref b29)])) (fun _ k => st30.trans k) ?_
      refine own_go (B := T30.setTop (mkF m 153 #[.val (.int p0), .val (.int p1), .val (.int v3), .val (.ref b19), .val (.ref wD), .val (.ref b29), .unset, .unset] [])) (fun _ k => XS.astore X30.here hx rfl (hb hby at_151) rfl rfl (l' := #[.val (.int p0), .val (.int p1), .val (.int v3), .val (.ref b19), .val (.ref wD), .val (.ref b29), .unset, .unset]) rfl k) ?_
      refine own_go (B := T30.setTop (mkF m 155 #[.val (.int p0), .val (.int p1), .val (.int v3), .val (.ref b19), .val (.ref wD), .val (.ref b29), .unset, .unset] [(.ref b29)])) (fun _ k => XS.aload X30.here hx rfl (hb hby at_153) rfl rfl k) ?_
      obtain ⟨_, _, ⟨T32, L32, k32, n32⟩, -, X32, ⟨Lc32, hQ32, l32, y32, z32⟩, st32⟩ := Jvm.LawKit.callS X30 hx (y := (⟨"com/example/rolegraph/rolegraph/ColumnRule$Kind", "of", "(Ljava/lang/String;)Lcom/example/rolegraph/rolegraph/ColumnRule$Kind;"⟩ : MethodName)) hown (mvT hZ (hw _ (List.mem_of_getElem? (i := 33) rfl))) (mvT hZ (hw _ (List.mem_of_getElem? (i := 34) rfl))) (mvT hZ (hw _ (List.mem_of_getElem? (i := 2) rfl))) (mvT hZ (hw _ (List.mem_of_getElem? (i := 35) rfl))) (by decide) (backOf (W := 0) (rm7 l Z a0 hw [] wA wV wD wL wN sA tA sD tD sL tL sN tN k_wV k_tA k_tD k_tL k_tN zC fm G b29 [(100 : Int32), (101 : Int32), (110 : Int32), (121 : Int32)] T30.heap n0 (Nat.le_trans Z0 K30'.1) O30 (⟨t31, kb31, Nb31, vs31, Es31, Fv31, Fc31, Vb31, cd31, rg31, ln31⟩ : own_Str Z T30.heap b29 [(100 : Int32), (101 : Int32), (110 : Int32), (121 : Int32)]) (Or.inr (Or.inl rfl))) hZ (hw _ (List.mem_of_getElem? (i := 35) rfl)) (hw _ (List.mem_of_getElem? (i := 2) rfl)) (by decide) (by decide)) (g := (mkF m 155 #[.val (.int p0), .val (.int p1), .val (.int v3), .val (.ref b19), .val (.ref wD), .val (.ref b29), .unset, .unset] [(.ref b29)])) rfl (by rw [hml]; rfl) (argsL := [(.ref b29)]) (rest := []) (lenOf pd_3 rfl) rfl (by show 2 * 0 + _ ≤ _; exact Nat.le_of_eq rfl) (hb hby at_155) (fun _ _ => ⟨rfl, rfl, (by decide : 3 + 1 ≤ 24), (by decide : 12 + 4 ≤ 128)⟩)
      dsimp only [Pt.U, Pt.locs, Pt.cells, Pt.slots] at X32 l32 y32 z32 st32 hQ32
      subst l32 y32 z32
      obtain ⟨rfl, N32q, K32⟩ := hQ32
      have N32 := Fr.app N30 N32q
      have O32 := O30.keep K32 all0
      have K32' : Keep h0 T32.heap ([] : List Addr) := K30'.trans K32 all0
      refine own_go (B := T32.setTop (mkF m 158 #[.val (.int p0), .val (.int p1), .val (.int v3), .val (.ref b19), .val (.ref wD), .val (.ref b29), .unset, .unset] [(.ref (own_kind [(100 : Int32), (101 : Int32), (110 : Int32), (121 : Int32)] wA wD wL wN))])) (st32) ?_
      rw [show own_kind [(100 : Int32), (101 : Int32), (110 : Int32), (121 : Int32)] wA wD wL wN = wD from by simp [own_kind]]
      refine own_go (B := T32.setTop (mkF m 160 #[.val (.int p0), .val (.int p1), .val (.int v3), .val (.ref b19), .val (.ref wD), .val (.ref b29), .val (.ref wD), .unset] [])) (fun _ k => XS.astore X32.here hx rfl (hb hby at_158) rfl rfl (l' := #[.val (.int p0), .val (.int p1), .val (.int v3), .val (.ref b19), .val (.ref wD), .val (.ref b29), .val (.ref wD), .unset]) rfl k) ?_
      refine own_go (B := T32.setTop (mkF m 162 #[.val (.int p0), .val (.int p1), .val (.int v3), .val (.ref b19), .val (.ref wD), .val (.ref b29), .val (.ref wD), .unset] [(.ref wD)])) (fun _ k => XS.aload X32.here hx rfl (hb hby at_160) rfl rfl k) ?_
      refine own_go (B := T32.setTop (mkF m 164 #[.val (.int p0), .val (.int p1), .val (.int v3), .val (.ref b19), .val (.ref wD), .val (.ref b29), .val (.ref wD), .unset] [(.ref wD), (.ref wD)])) (fun _ k => XS.aload X32.here hx rfl (hb hby at_162) rfl rfl k) ?_
      refine own_go (B := T32.setTop (mkF m 167 #[.val (.int p0), .val (.int p1), .val (.int v3), .val (.ref b19), .val (.ref wD), .val (.ref b29), .val (.ref wD), .unset] [])) (fun _ k => Jvm.RoadKit.acmp (g := (mkF m 164 #[.val (.int p0), .val (.int p1), .val (.int v3), .val (.ref b19), .val (.ref wD), .val (.ref b29), .val (.ref wD), .unset] [(.ref wD), (.ref wD)])) X32 hx rfl rfl rfl (pc0 := 164) (pc' := 167) (same := true) rfl (hb hby at_164) rfl (decide_eq_true rfl) (by decide) (by decide) k) ?_
      refine own_go (B := T32.setTop (mkF m 168 #[.val (.int p0), .val (.int p1), .val (.int v3), .val (.ref b19), .val (.ref wD), .val (.ref b29), .val (.ref wD), .unset] [(.int (1 : Int32))])) (fun _ k => XS.iconst X32.here hx rfl (hb hby at_167) k) ?_
      refine own_go (B := T32.setTop (mkF m 172 #[.val (.int p0), .val (.int p1), .val (.int v3), .val (.ref b19), .val (.ref wD), .val (.ref b29), .val (.ref wD), .unset] [(.int (1 : Int32))])) (fun _ k => XS.goto X32.here hx rfl (pc0 := 168) (pc' := 172) rfl (hb hby at_168) (by decide) (by decide) k) ?_
      refine own_go (B := T32.setTop (mkF m 174 #[.val (.int p0), .val (.int p1), .val (.int v3), .val (.ref b19), .val (.ref wD), .val (.ref b29), .val (.ref wD), .val (.int (1 : Int32))] [])) (fun _ k => XS.istore X32.here hx rfl (hb hby at_172) rfl (l' := #[.val (.int p0), .val (.int p1), .val (.int v3), .val (.ref b19), .val (.ref wD), .val (.ref b29), .val (.ref wD), .val (.int (1 : Int32))]) rfl k) ?_
      refine own_go (B := T32.setTop (mkF m 175 #[.val (.int p0), .val (.int p1), .val (.int v3), .val (.ref b19), .val (.ref wD), .val (.ref b29), .val (.ref wD), .val (.int (1 : Int32))] [(.int p1)])) (fun _ k => XS.iloadN X32.here hx rfl (hb hby at_174) rfl k) ?_
      refine own_go (B := T32.setTop (mkF m 176 #[.val (.int p0), .val (.int p1), .val (.int v3), .val (.ref b19), .val (.ref wD), .val (.ref b29), .val (.ref wD), .val (.int (1 : Int32))] [(.int (1 : Int32)), (.int p1)])) (fun _ k => XS.iconst X32.here hx rfl (hb hby at_175) k) ?_
      refine own_go (B := T32.setTop (mkF m 177 #[.val (.int p0), .val (.int p1), .val (.int v3), .val (.ref b19), .val (.ref wD), .val (.ref b29), .val (.ref wD), .val (.int (1 : Int32))] [(.int (p1 &&& (1 : Int32)))])) (fun _ k => XS.iand X32.here hx rfl (hb hby at_176) rfl k) ?_
      by_cases hc177 : (p1 &&& (1 : Int32)) = (0 : Int32)
      · refine own_go (B := T32.setTop (mkF m 205 #[.val (.int p0), .val (.int p1), .val (.int v3), .val (.ref b19), .val (.ref wD), .val (.ref b29), .val (.ref wD), .val (.int (1 : Int32))] [])) (fun _ k => XS.ifYes X32.here hx rfl (pc0 := 177) (pc' := 205) rfl (hb hby at_177) rfl ((if0 _ _).trans (teq hc177).1) (by decide) (by decide) k) ?_
        refine own_go (B := T32.setTop (mkF m 207 #[.val (.int p0), .val (.int p1), .val (.int v3), .val (.ref b19), .val (.ref wD), .val (.ref b29), .val (.ref wD), .val (.int (1 : Int32))] [(.int (1 : Int32))])) (fun _ k => XS.iload X32.here hx rfl (hb hby at_205) rfl k) ?_
        obtain ⟨fs, hr, hrun, hended, hW, hsame⟩ := X32.leave (v := some (.int (nar .boolean (1 : Int32)))) (fun h => by rw [Bd.returns] at h; cases h)
        refine ⟨_, _, retN X32 hx (t := .boolean) Bd.returns (by simp) (hb hby at_207) hr, hrun, hended, _, _, rfl, ?_, ⟨_, rfl⟩, hW, hsame.mono (by decide) (by decide)⟩
        show Q_rm0 Z wA wV wD wL wN sA tA sD tD sL tL sN tN k_wV k_tA k_tD k_tL k_tN zC fm p0 p1 h0 n0 _ T32.heap _
        exact ⟨rfl, N32⟩
      · refine own_go (B := T32.setTop (mkF m 180 #[.val (.int p0), .val (.int p1), .val (.int v3), .val (.ref b19), .val (.ref wD), .val (.ref b29), .val (.ref wD), .val (.int (1 : Int32))] [])) (fun _ k => XS.ifNo X32.here hx rfl (hb hby at_177) rfl ((if0 _ _).trans (feq hc177).1) k) ?_
        refine own_go (B := T32.setTop (mkF m 182 #[.val (.int p0), .val (.int p1), .val (.int v3), .val (.ref b19), .val (.ref wD), .val (.ref b29), .val (.ref wD), .val (.int (1 : Int32))] [(.int (1 : Int32))])) (fun _ k => XS.iload X32.here hx rfl (hb hby at_180) rfl k) ?_
        refine own_go (B := T32.setTop (mkF m 185 #[.val (.int p0), .val (.int p1), .val (.int v3), .val (.ref b19), .val (.ref wD), .val (.ref b29), .val (.ref wD), .val (.int (1 : Int32))] [])) (fun _ k => XS.ifNo X32.here hx rfl (hb hby at_182) rfl ((if0 _ _).trans (feq (by decide : ¬ ((1 : Int32) = (0 : Int32)))).1) k) ?_
        refine own_go (B := T32.setTop (mkF m 187 #[.val (.int p0), .val (.int p1), .val (.int v3), .val (.ref b19), .val (.ref wD), .val (.ref b29), .val (.ref wD), .val (.int (1 : Int32))] [(.ref wD)])) (fun _ k => XS.aload X32.here hx rfl (hb hby at_185) rfl rfl k) ?_
        obtain ⟨T33, X33, e33, st33⟩ := getF X32 hx hZ hown (host := "") (Or.inl (hw _ (List.mem_of_getElem? (i := 66) rfl))) Via.refl rfl (F_word_wD.ext O32.2) (g := (mkF m 187 #[.val (.int p0), .val (.int p1), .val (.int v3), .val (.ref b19), .val (.ref wD), .val (.ref b29), .val (.ref wD), .val (.int (1 : Int32))] [(.ref wD)])) rfl rfl (hb hby at_187)
        refine own_go (B := T33.setTop (mkF m 190 #[.val (.int p0), .val (.int p1), .val (.int v3), .val (.ref b19), .val (.ref wD), .val (.ref b29), .val (.ref wD), .val (.int (1 : Int32))] [(.ref sD)])) (st33) ?_
        obtain ⟨_, _, ⟨T34, L34, k34, n34⟩, -, X34, ⟨Lc34, hQ34, l34, y34, z34⟩, st34⟩ := Jvm.LawKit.callS X33 hx (y := (⟨"com/example/rolegraph/rolegraph/ColumnRule$Kind", "of", "(Ljava/lang/String;)Lcom/example/rolegraph/rolegraph/ColumnRule$Kind;"⟩ : MethodName)) hown (mvT hZ (hw _ (List.mem_of_getElem? (i := 33) rfl))) (mvT hZ (hw _ (List.mem_of_getElem? (i := 34) rfl))) (mvT hZ (hw _ (List.mem_of_getElem? (i := 2) rfl))) (mvT hZ (hw _ (List.mem_of_getElem? (i := 35) rfl))) (by decide) (backOf (W := 0) (rm7 l Z a0 hw [] wA wV wD wL wN sA tA sD tD sL tL sN tN k_wV k_tA k_tD k_tL k_tN zC fm G sD [(100 : Int32), (101 : Int32), (110 : Int32), (121 : Int32)] T32.heap n0 (Nat.le_trans Z0 K32'.1) O32 (own_Str_ext O32.2 Sx_sD) (Or.inr (Or.inl rfl))) hZ (hw _ (List.mem_of_getElem? (i := 35) rfl)) (hw _ (List.mem_of_getElem? (i := 2) rfl)) (by decide) (by decide)) (g := (mkF m 190 #[.val (.int p0), .val (.int p1), .val (.int v3), .val (.ref b19), .val (.ref wD), .val (.ref b29), .val (.ref wD), .val (.int (1 : Int32))] [(.ref sD)])) rfl (by rw [hml]; rfl) (argsL := [(.ref sD)]) (rest := []) (lenOf pd_3 rfl) rfl (by show 2 * 0 + _ ≤ _; exact Nat.le_of_eq rfl) (hb hby at_190) (fun _ _ => ⟨rfl, e33, (by decide : 4 + 1 ≤ 24), (by decide : 16 + 4 ≤ 128)⟩)
        dsimp only [Pt.U, Pt.locs, Pt.cells, Pt.slots] at X34 l34 y34 z34 st34 hQ34
        subst l34 y34 z34
        obtain ⟨rfl, N34q, K34⟩ := hQ34
        have N34 := Fr.app N32 N34q
        have O34 := O32.keep K34 all0
        have K34' : Keep h0 T34.heap ([] : List Addr) := K32'.trans K34 all0
        refine own_go (B := T34.setTop (mkF m 193 #[.val (.int p0), .val (.int p1), .val (.int v3), .val (.ref b19), .val (.ref wD), .val (.ref b29), .val (.ref wD), .val (.int (1 : Int32))] [(.ref (own_kind [(100 : Int32), (101 : Int32), (110 : Int32), (121 : Int32)] wA wD wL wN))])) (st34) ?_
        rw [show own_kind [(100 : Int32), (101 : Int32), (110 : Int32), (121 : Int32)] wA wD wL wN = wD from by simp [own_kind]]
        refine own_go (B := T34.setTop (mkF m 195 #[.val (.int p0), .val (.int p1), .val (.int v3), .val (.ref b19), .val (.ref wD), .val (.ref b29), .val (.ref wD), .val (.int (1 : Int32))] [(.ref wD), (.ref wD)])) (fun _ k => XS.aload X34.here hx rfl (hb hby at_193) rfl rfl k) ?_
        refine own_go (B := T34.setTop (mkF m 198 #[.val (.int p0), .val (.int p1), .val (.int v3), .val (.ref b19), .val (.ref wD), .val (.ref b29), .val (.ref wD), .val (.int (1 : Int32))] [])) (fun _ k => Jvm.RoadKit.acmp (g := (mkF m 195 #[.val (.int p0), .val (.int p1), .val (.int v3), .val (.ref b19), .val (.ref wD), .val (.ref b29), .val (.ref wD), .val (.int (1 : Int32))] [(.ref wD), (.ref wD)])) X34 hx rfl rfl rfl (pc0 := 195) (pc' := 198) (same := true) rfl (hb hby at_195) rfl (decide_eq_true rfl) (by decide) (by decide) k) ?_
        refine own_go (B := T34.setTop (mkF m 199 #[.val (.int p0), .val (.int p1), .val (.int v3), .val (.ref b19), .val (.ref wD), .val (.ref b29), .val (.ref wD), .val (.int (1 : Int32))] [(.int (1 : Int32))])) (fun _ k => XS.iconst X34.here hx rfl (hb hby at_198) k) ?_
        refine own_go (B := T34.setTop (mkF m 203 #[.val (.int p0), .val (.int p1), .val (.int v3), .val (.ref b19), .val (.ref wD), .val (.ref b29), .val (.ref wD), .val (.int (1 : Int32))] [(.int (1 : Int32))])) (fun _ k => XS.goto X34.here hx rfl (pc0 := 199) (pc' := 203) rfl (hb hby at_199) (by decide) (by decide) k) ?_
        refine own_go (B := T34.setTop (mkF m 205 #[.val (.int p0), .val (.int p1), .val (.int v3), .val (.ref b19), .val (.ref wD), .val (.ref b29), .val (.ref wD), .val (.int (1 : Int32))] [])) (fun _ k => XS.istore X34.here hx rfl (hb hby at_203) rfl (l' := #[.val (.int p0), .val (.int p1), .val (.int v3), .val (.ref b19), .val (.ref wD), .val (.ref b29), .val (.ref wD), .val (.int (1 : Int32))]) rfl k) ?_
        refine own_go (B := T34.setTop (mkF m 207 #[.val (.int p0), .val (.int p1), .val (.int v3), .val (.ref b19), .val (.ref wD), .val (.ref b29), .val (.ref wD), .val (.int (1 : Int32))] [(.int (1 : Int32))])) (fun _ k => XS.iload X34.here hx rfl (hb hby at_205) rfl k) ?_
        obtain ⟨fs, hr, hrun, hended, hW, hsame⟩ := X34.leave (v := some (.int (nar .boolean (1 : Int32)))) (fun h => by rw [Bd.returns] at h; cases h)
        refine ⟨_, _, retN X34 hx (t := .boolean) Bd.returns (by simp) (hb hby at_207) hr, hrun, hended, _, _, rfl, ?_, ⟨_, rfl⟩, hW, hsame.mono (by decide) (by decide)⟩
        show Q_rm0 Z wA wV wD wL wN sA tA sD tD sL tL sN tN k_wV k_tA k_tD k_tL k_tN zC fm p0 p1 h0 n0 _ T34.heap _
        exact ⟨rfl, N34⟩
    · refine own_go (B := s₁.setTop (mkF m 82 #[.val (.int p0), .val (.int p1), .val (.int v3), .unset, .unset, .unset, .unset, .unset] [])) (fun _ k => XS.icmpYes X0.here hx rfl (pc0 := 47) (pc' := 82) rfl (hb hby at_47) rfl (feq hc47).2 (by decide) (by decide) k) ?_
      refine own_go (B := s₁.setTop (mkF m 83 #[.val (.int p0), .val (.int p1), .val (.int v3), .unset, .unset, .unset, .unset, .unset] [(.int v3)])) (fun _ k => XS.iloadN X0.here hx rfl (hb hby at_82) rfl k) ?_
      refine own_go (B := s₁.setTop (mkF m 84 #[.val (.int p0), .val (.int p1), .val (.int v3), .unset, .unset, .unset, .unset, .unset] [(.int (2 : Int32)), (.int v3)])) (fun _ k => XS.iconst X0.here hx rfl (hb hby at_83) k) ?_
      by_cases hc84 : v3 = (2 : Int32)
      · refine own_go (B := s₁.setTop (mkF m 87 #[.val (.int p0), .val (.int p1), .val (.int v3), .unset, .unset, .unset, .unset, .unset] [])) (fun _ k => XS.icmpNo X0.here hx rfl (hb hby at_84) rfl (teq hc84).2 k) ?_
        refine own_go (B := s₁.setTop (mkF m 88 #[.val (.int p0), .val (.int p1), .val (.int v3), .unset, .unset, .unset, .unset, .unset] [(.int (3 : Int32))])) (fun _ k => XS.iconst X0.here hx rfl (hb hby at_87) k) ?_
        obtain ⟨T35, h35, k35, X35, e35, E35, A35, st35⟩ := newP X0 hx hZ (hw _ (List.mem_of_getElem? (i := 0) rfl)) e0 (g := (mkF m 88 #[.val (.int p0), .val (.int p1), .val (.int v3), .unset, .unset, .unset, .unset, .unset] [(.int (3 : Int32))])) rfl (hb hby at_88) rfl (by decide) (cap := 3) (by decide) (by decide) (by decide) (by decide)
        obtain ⟨b35, g35⟩ : ∃ z, z = h0.size := ⟨_, rfl⟩
        rw [← g35] at A35 st35
        have g_b35 : n0 ≤ b35 := Nat.le_trans (Nat.le_trans Z0 K0.1) (Nat.le_of_eq g35.symm)
        have sz_b35 : h0.size ≤ b35 := Nat.le_trans K0.1 (Nat.le_of_eq g35.symm)
        have O35 := O0.ext E35
        have K35' : Keep h0 h35 ([] : List Addr) := K0.ext E35
        have V_b35 : Arv Z h35 b35 k35 .char (3 : Int32) [(.int (0 : Int32)), (.int (0 : Int32)), (.int (0 : Int32))] (.int (0 : Int32)) := (Arv.new A35 (by decide)).pad (pad_rep [] (.int (0 : Int32)) 3)
        refine own_go (B := T35.setTop (mkF m 90 #[.val (.int p0), .val (.int p1), .val (.int v3), .unset, .unset, .unset, .unset, .unset] [(.ref b35)])) (st35) ?_
        refine own_go (B := T35.setTop (mkF m 91 #[.val (.int p0), .val (.int p1), .val (.int v3), .unset, .unset, .unset, .unset, .unset] [(.ref b35), (.ref b35)])) (fun _ k => XS.dup X35.here hx rfl (hb hby at_90) rfl rfl k) ?_
        refine own_go (B := T35.setTop (mkF m 92 #[.val (.int p0), .val (.int p1), .val (.int v3), .unset, .unset, .unset, .unset, .unset] [(.int (0 : Int32)), (.ref b35), (.ref b35)])) (fun _ k => XS.iconst X35.here hx rfl (hb hby at_91) k) ?_
        refine own_go (B := T35.setTop (mkF m 94 #[.val (.int p0), .val (.int p1), .val (.int v3), .unset, .unset, .unset, .unset, .unset] [(.int (97 : Int32)), (.int (0 : Int32)), (.ref b35), (.ref b35)])) (fun _ k => XS.bipush X35.here hx rfl (hb hby at_92) k) ?_
        obtain ⟨cl36, Ar36, q36, Sz36, Nn36, Hh36, Gg36⟩ := id V_b35
        have hin36 : ¬ ((0 : Int32) < 0 ∨ cl36.slots.size ≤ ((0 : Int32)).toNatClampNeg) := inb_of Sz36 ⟨by decide, by decide⟩
        obtain ⟨T37, h37, X37, e37, W37, st37⟩ := stC X35 hx hZ e35 Ar36 (j := (0 : Int32)) hin36 (g := (mkF m 94 #[.val (.int p0), .val (.int p1), .val (.int v3), .unset, .unset, .unset, .unset, .unset] [(.int (97 : Int32)), (.int (0 : Int32)), (.ref b35), (.ref b35)])) rfl rfl (hb hby at_94)
        rw [own_nar (c := (97 : Int32)) ⟨by decide, by decide⟩] at W37
        have V37 := Arv.set Ar36 q36 Sz36 Nn36 Hh36 Gg36 (own_nar (c := (97 : Int32)) ⟨by decide, by decide⟩ ▸ fits_nar_char (97 : Int32)) W37 0 rfl (Nat.le_of_ble_eq_true rfl)
        have O37 := O35.wr W37 g_b35
        have N37 := Fr.snoc X37 N0 g_b35
        have K37' : Keep h0 h37 ([] : List Addr) := K35'.wr W37 (Or.inr sz_b35)
        replace V37 : Arv Z h37 b35 k35 .char (3 : Int32) [(.int (97 : Int32)), (.int (0 : Int32)), (.int (0 : Int32))] (.int (0 : Int32)) := V37
        refine own_go (B := T37.setTop (mkF m 95 #[.val (.int p0), .val (.int p1), .val (.int v3), .unset, .unset, .unset, .unset, .unset] [(.ref b35)])) (st37) ?_
        refine own_go (B := T37.setTop (mkF m 96 #[.val (.int p0), .val (.int p1), .val (.int v3), .unset, .unset, .unset, .unset, .unset] [(.ref b35), (.ref b35)])) (fun _ k => XS.dup X37.here hx rfl (hb hby at_95) rfl rfl k) ?_
        refine own_go (B := T37.setTop (mkF m 97 #[.val (.int p0), .val (.int p1), .val (.int v3), .unset, .unset, .unset, .unset, .unset] [(.int (1 : Int32)), (.ref b35), (.ref b35)])) (fun _ k => XS.iconst X37.here hx rfl (hb hby at_96) k) ?_
        refine own_go (B := T37.setTop (mkF m 99 #[.val (.int p0), .val (.int p1), .val (.int v3), .unset, .unset, .unset, .unset, .unset] [(.int (108 : Int32)), (.int (1 : Int32)), (.ref b35), (.ref b35)])) (fun _ k => XS.bipush X37.here hx rfl (hb hby at_97) k) ?_
        obtain ⟨cl38, Ar38, q38, Sz38, Nn38, Hh38, Gg38⟩ := id V37
        have hin38 : ¬ ((1 : Int32) < 0 ∨ cl38.slots.size ≤ ((1 : Int32)).toNatClampNeg) := inb_of Sz38 ⟨by decide, by decide⟩
        obtain ⟨T39, h39, X39, e39, W39, st39⟩ := stC X37 hx hZ e37 Ar38 (j := (1 : Int32)) hin38 (g := (mkF m 99 #[.val (.int p0), .val (.int p1), .val (.int v3), .unset, .unset, .unset, .unset, .unset] [(.int (108 : Int32)), (.int (1 : Int32)), (.ref b35), (.ref b35)])) rfl rfl (hb hby at_99)
        rw [own_nar (c := (108 : Int32)) ⟨by decide, by decide⟩] at W39
        have V39 := Arv.set Ar38 q38 Sz38 Nn38 Hh38 Gg38 (own_nar (c := (108 : Int32)) ⟨by decide, by decide⟩ ▸ fits_nar_char (108 : Int32)) W39 1 rfl (Nat.le_of_ble_eq_true rfl)
        have O39 := O37.wr W39 g_b35
        have N39 := Fr.snoc X39 N37 g_b35
        have K39' : Keep h0 h39 ([] : List Addr) := K37'.wr W39 (Or.inr sz_b35)
        replace V39 : Arv Z h39 b35 k35 .char (3 : Int32) [(.int (97 : Int32)), (.int (108 : Int32)), (.int (0 : Int32))] (.int (0 : Int32)) := V39
        refine own_go (B := T39.setTop (mkF m 100 #[.val (.int p0), .val (.int p1), .val (.int v3), .unset, .unset, .unset, .unset, .unset] [(.ref b35)])) (st39) ?_
        refine own_go (B := T39.setTop (mkF m 101 #[.val (.int p0), .val (.int p1), .val (.int v3), .unset, .unset, .unset, .unset, .unset] [(.ref b35), (.ref b35)])) (fun _ k => XS.dup X39.here hx rfl (hb hby at_100) rfl rfl k) ?_
        refine own_go (B := T39.setTop (mkF m 102 #[.val (.int p0), .val (.int p1), .val (.int v3), .unset, .unset, .unset, .unset, .unset] [(.int (2 : Int32)), (.ref b35), (.ref b35)])) (fun _ k => XS.iconst X39.here hx rfl (hb hby at_101) k) ?_
        refine own_go (B := T39.setTop (mkF m 104 #[.val (.int p0), .val (.int p1), .val (.int v3), .unset, .unset, .unset, .unset, .unset] [(.int (108 : Int32)), (.int (2 : Int32)), (.ref b35), (.ref b35)])) (fun _ k => XS.bipush X39.here hx rfl (hb hby at_102) k) ?_
        obtain ⟨cl40, Ar40, q40, Sz40, Nn40, Hh40, Gg40⟩ := id V39
        have hin40 : ¬ ((2 : Int32) < 0 ∨ cl40.slots.size ≤ ((2 : Int32)).toNatClampNeg) := inb_of Sz40 ⟨by decide, by decide⟩
        obtain ⟨T41, h41, X41, e41, W41, st41⟩ := stC X39 hx hZ e39 Ar40 (j := (2 : Int32)) hin40 (g := (mkF m 104 #[.val (.int p0), .val (.int p1), .val (.int v3), .unset, .unset, .unset, .unset, .unset] [(.int (108 : Int32)), (.int (2 : Int32)), (.ref b35), (.ref b35)])) rfl rfl (hb hby at_104)
        rw [own_nar (c := (108 : Int32)) ⟨by decide, by decide⟩] at W41
        have V41 := Arv.set Ar40 q40 Sz40 Nn40 Hh40 Gg40 (own_nar (c := (108 : Int32)) ⟨by decide, by decide⟩ ▸ fits_nar_char (108 : Int32)) W41 2 rfl (Nat.le_of_ble_eq_true rfl)
        have O41 := O39.wr W41 g_b35
        have N41 := Fr.snoc X41 N39 g_b35
        have K41' : Keep h0 h41 ([] : List Addr) := K39'.wr W41 (Or.inr sz_b35)
        replace V41 : Arv Z h41 b35 k35 .char (3 : Int32) [(.int (97 : Int32)), (.int (108 : Int32)), (.int (108 : Int32))] (.int (0 : Int32)) := V41
        refine own_go (B := T41.setTop (mkF m 105 #[.val (.int p0), .val (.int p1), .val (.int v3), .unset, .unset, .unset, .unset, .unset] [(.ref b35)])) (st41) ?_
        refine own_go (B := T41.setTop (mkF m 106 #[.val (.int p0), .val (.int p1), .val (.int v3), .val (.ref b35), .unset, .unset, .unset, .unset] [])) (fun _ k => XS.astoreN X41.here hx rfl (hb hby at_105) rfl rfl (l' := #[.val (.int p0), .val (.int p1), .val (.int v3), .val (.ref b35), .unset, .unset, .unset, .unset]) rfl k) ?_
        obtain ⟨T42, X42, e42, st42⟩ := getS2 X41 hx hZ hown (host := "") (Or.inl (hw _ (List.mem_of_getElem? (i := 67) rfl))) Via.refl e41 (S_ColumnRule_Kind_ALL.ext O41.2) (g := (mkF m 106 #[.val (.int p0), .val (.int p1), .val (.int v3), .val (.ref b35), .unset, .unset, .unset, .unset] [])) rfl (hb hby at_106)
        refine own_go (B := T42.setTop (mkF m 109 #[.val (.int p0), .val (.int p1), .val (.int v3), .val (.ref b35), .unset, .unset, .unset, .unset] [(.ref wL)])) (st42) ?_
        refine own_go (B := T42.setTop (mkF m 111 #[.val (.int p0), .val (.int p1), .val (.int v3), .val (.ref b35), .val (.ref wL), .unset, .unset, .unset] [])) (fun _ k => XS.astore X42.here hx rfl (hb hby at_109) rfl rfl (l' := #[.val (.int p0), .val (.int p1), .val (.int v3), .val (.ref b35), .val (.ref wL), .unset, .unset, .unset]) rfl k) ?_
        refine own_go (B := T42.setTop (mkF m 143 #[.val (.int p0), .val (.int p1), .val (.int v3), .val (.ref b35), .val (.ref wL), .unset, .unset, .unset] [])) (fun _ k => XS.goto X42.here hx rfl (pc0 := 111) (pc' := 143) rfl (hb hby at_111) (by decide) (by decide) k) ?_
        obtain ⟨T43, h43, X43, e43, E43, A43, D43, -, st43⟩ := newO X42 hx hZ hown (hw _ (List.mem_of_getElem? (i := 4) rfl)) (hw _ (List.mem_of_getElem? (i := 5) rfl)) (hw _ (List.mem_of_getElem? (i := 6) rfl)) e42 (g := (mkF m 143 #[.val (.int p0), .val (.int p1), .val (.int v3), .val (.ref b35), .val (.ref wL), .unset, .unset, .unset] [])) rfl (hb hby at_143) (by decide) (by decide)
        obtain ⟨b43, g43⟩ : ∃ z, z = h41.size := ⟨_, rfl⟩
        rw [← g43] at A43 D43 st43
        have g_b43 : n0 ≤ b43 := Nat.le_trans (Nat.le_trans Z0 K41'.1) (Nat.le_of_eq g43.symm)
        have sz_b43 : h0.size ≤ b43 := Nat.le_trans K41'.1 (Nat.le_of_eq g43.symm)
        have ne43_1 : b35 ≠ b43 := Nat.ne_of_lt (Nat.lt_of_lt_of_le V41.lt (Nat.le_of_eq g43.symm))
        have O43 := O41.ext E43
        have K43' : Keep h0 h43 ([] : List Addr) := K41'.ext E43
        have F_coder_b43 : Fld Z h43 b43 "java/lang/String" "coder" "B" (.int (0 : Int32)) := D43 (Or.inr (hw _ (List.mem_of_getElem? (i := 30) rfl))) (ty := .byte) (by decide)
        have F_value_b43 : Fld Z h43 b43 "java/lang/String" "value" "[B" .null := D43 (Or.inr (hw _ (List.mem_of_getElem? (i := 32) rfl))) (ty := (.array .byte)) (by decide)
        refine own_go (B := T43.setTop (mkF m 146 #[.val (.int p0), .val (.int p1), .val (.int v3), .val (.ref b35), .val (.ref wL), .unset, .unset, .unset] [(.ref b43)])) (st43) ?_
        refine own_go (B := T43.setTop (mkF m 147 #[.val (.int p0), .val (.int p1), .val (.int v3), .val (.ref b35), .val (.ref wL), .unset, .unset, .unset] [(.ref b43), (.ref b43)])) (fun _ k => XS.dup X43.here hx rfl (hb hby at_146) rfl rfl k) ?_
        refine own_go (B := T43.setTop (mkF m 148 #[.val (.int p0), .val (.int p1), .val (.int v3), .val (.ref b35), .val (.ref wL), .unset, .unset, .unset] [(.ref b35), (.ref b43), (.ref b43)])) (fun _ k => XS.aloadN X43.here hx rfl (hb hby at_147) rfl rfl k) ?_
        obtain ⟨_, _, ⟨T44, L44, k44, n44⟩, -, X44, ⟨Lc44, hQ44, l44, y44, z44⟩, st44⟩ := X43.specialBack hx (y := (⟨"java/lang/String", "<init>", "([C)V"⟩ : MethodName)) rfl hown (mvT hZ (hw _ (List.mem_of_getElem? (i := 7) rfl))) (mvT hZ (hw _ (List.mem_of_getElem? (i := 8) rfl))) (mvT hZ (hw _ (List.mem_of_getElem? (i := 9) rfl))) (by decide) (own_newS (W := 1) hZ hw 3 n0 g_b43 (Nat.le_trans Z0 K43'.1) A43 F_value_b43 F_coder_b43 (V41.ext E43) (cs := [(97 : Int32), (108 : Int32), (108 : Int32)]) rfl (S_String_COMPACT_STRINGS.ext O43.2) hzC rfl rfl (by decide) (by decide) (by decide) (by decide) (by decide)) (g := (mkF m 148 #[.val (.int p0), .val (.int p1), .val (.int v3), .val (.ref b35), .val (.ref wL), .unset, .unset, .unset] [(.ref b35), (.ref b43), (.ref b43)])) rfl (by rw [hml]; rfl) (Steps.refl _) (a := b43) (argsL := [(.ref b35)]) (rest := [(.ref b43)]) (lenOf pd_2 rfl) rfl (by show 2 * 0 + _ ≤ _; exact Nat.le_of_eq rfl) (hb hby at_148) (fun _ _ => ⟨rfl, e43, (by decide : 2 + 1 ≤ 24), (by decide : 7 + 3 ≤ 128)⟩)
        dsimp only [Pt.U, Pt.locs, Pt.cells, Pt.slots] at X44 l44 y44 z44 st44 hQ44
        subst l44 y44 z44
        obtain ⟨rfl, N44q, K44, Str_44⟩ := hQ44
        have N44 := Fr.app N41 N44q
        have O44 := O43.keep K44 (allS g_b43 all0)
        have K44' : Keep h0 T44.heap ([] : List Addr) := K43'.trans K44 (allS (Or.inr sz_b43) all0)
        obtain ⟨t45, kb45, Nb45, vs45, Es45, Fv45, Fc45, Vb45, cd45, rg45, ln45⟩ := Str_44
        refine own_go (B := T44.setTop (mkF m 151 #[.val (.int p0), .val (.int p1), .val (.int v3), .val (.ref b35), .val (.ref wL), .unset, .unset, .unset] [(.ref b43)])) (fun _ k => st44.trans k) ?_
        refine own_go (B := T44.setTop (mkF m 153 #[.val (.int p0), .val (.int p1), .val (.int v3), .val (.ref b35), .val (.ref wL), .val (.ref b43), .unset, .unset] [])) (fun _ k => XS.astore X44.here hx rfl (hb hby at_151) rfl rfl (l' := #[.val (.int p0), .val (.int p1), .val (.int v3), .val (.ref b35), .val (.ref wL), .val (.ref b43), .unset, .unset]) rfl k) ?_
        refine own_go (B := T44.setTop (mkF m 155 #[.val (.int p0), .val (.int p1), .val (.int v3), .val (.ref b35), .val (.ref wL), .val (.ref b43), .unset, .unset] [(.ref b43)])) (fun _ k => XS.aload X44.here hx rfl (hb hby at_153) rfl rfl k) ?_
        obtain ⟨_, _, ⟨T46, L46, k46, n46⟩, -, X46, ⟨Lc46, hQ46, l46, y46, z46⟩, st46⟩ := Jvm.LawKit.callS X44 hx (y := (⟨"com/example/rolegraph/rolegraph/ColumnRule$Kind", "of", "(Ljava/lang/String;)Lcom/example/rolegraph/rolegraph/ColumnRule$Kind;"⟩ : MethodName)) hown (mvT hZ (hw _ (List.mem_of_getElem? (i := 33) rfl))) (mvT hZ (hw _ (List.mem_of_getElem? (i := 34) rfl))) (mvT hZ (hw _ (List.mem_of_getElem? (i := 2) rfl))) (mvT hZ (hw _ (List.mem_of_getElem? (i := 35) rfl))) (by decide) (backOf (W := 0) (rm7 l Z a0 hw [] wA wV wD wL wN sA tA sD tD sL tL sN tN k_wV k_tA k_tD k_tL k_tN zC fm G b43 [(97 : Int32), (108 : Int32), (108 : Int32)] T44.heap n0 (Nat.le_trans Z0 K44'.1) O44 (⟨t45, kb45, Nb45, vs45, Es45, Fv45, Fc45, Vb45, cd45, rg45, ln45⟩ : own_Str Z T44.heap b43 [(97 : Int32), (108 : Int32), (108 : Int32)]) (Or.inr (Or.inr (Or.inl rfl)))) hZ (hw _ (List.mem_of_getElem? (i := 35) rfl)) (hw _ (List.mem_of_getElem? (i := 2) rfl)) (by decide) (by decide)) (g := (mkF m 155 #[.val (.int p0), .val (.int p1), .val (.int v3), .val (.ref b35), .val (.ref wL), .val (.ref b43), .unset, .unset] [(.ref b43)])) rfl (by rw [hml]; rfl) (argsL := [(.ref b43)]) (rest := []) (lenOf pd_3 rfl) rfl (by show 2 * 0 + _ ≤ _; exact Nat.le_of_eq rfl) (hb hby at_155) (fun _ _ => ⟨rfl, rfl, (by decide : 3 + 1 ≤ 24), (by decide : 10 + 4 ≤ 128)⟩)
        dsimp only [Pt.U, Pt.locs, Pt.cells, Pt.slots] at X46 l46 y46 z46 st46 hQ46
        subst l46 y46 z46
        obtain ⟨rfl, N46q, K46⟩ := hQ46
        have N46 := Fr.app N44 N46q
        have O46 := O44.keep K46 all0
        have K46' : Keep h0 T46.heap ([] : List Addr) := K44'.trans K46 all0
        refine own_go (B := T46.setTop (mkF m 158 #[.val (.int p0), .val (.int p1), .val (.int v3), .val (.ref b35), .val (.ref wL), .val (.ref b43), .unset, .unset] [(.ref (own_kind [(97 : Int32), (108 : Int32), (108 : Int32)] wA wD wL wN))])) (st46) ?_
        rw [show own_kind [(97 : Int32), (108 : Int32), (108 : Int32)] wA wD wL wN = wL from by simp [own_kind]]
        refine own_go (B := T46.setTop (mkF m 160 #[.val (.int p0), .val (.int p1), .val (.int v3), .val (.ref b35), .val (.ref wL), .val (.ref b43), .val (.ref wL), .unset] [])) (fun _ k => XS.astore X46.here hx rfl (hb hby at_158) rfl rfl (l' := #[.val (.int p0), .val (.int p1), .val (.int v3), .val (.ref b35), .val (.ref wL), .val (.ref b43), .val (.ref wL), .unset]) rfl k) ?_
        refine own_go (B := T46.setTop (mkF m 162 #[.val (.int p0), .val (.int p1), .val (.int v3), .val (.ref b35), .val (.ref wL), .val (.ref b43), .val (.ref wL), .unset] [(.ref wL)])) (fun _ k => XS.aload X46.here hx rfl (hb hby at_160) rfl rfl k) ?_
        refine own_go (B := T46.setTop (mkF m 164 #[.val (.int p0), .val (.int p1), .val (.int v3), .val (.ref b35), .val (.ref wL), .val (.ref b43), .val (.ref wL), .unset] [(.ref wL), (.ref wL)])) (fun _ k => XS.aload X46.here hx rfl (hb hby at_162) rfl rfl k) ?_
        refine own_go (B := T46.setTop (mkF m 167 #[.val (.int p0), .val (.int p1), .val (.int v3), .val (.ref b35), .val (.ref wL), .val (.ref b43), .val (.ref wL), .unset] [])) (fun _ k => Jvm.RoadKit.acmp (g := (mkF m 164 #[.val (.int p0), .val (.int p1), .val (.int v3), .val (.ref b35), .val (.ref wL), .val (.ref b43), .val (.ref wL), .unset] [(.ref wL), (.ref wL)])) X46 hx rfl rfl rfl (pc0 := 164) (pc' := 167) (same := true) rfl (hb hby at_164) rfl (decide_eq_true rfl) (by decide) (by decide) k) ?_
        refine own_go (B := T46.setTop (mkF m 168 #[.val (.int p0), .val (.int p1), .val (.int v3), .val (.ref b35), .val (.ref wL), .val (.ref b43), .val (.ref wL), .unset] [(.int (1 : Int32))])) (fun _ k => XS.iconst X46.here hx rfl (hb hby at_167) k) ?_
        refine own_go (B := T46.setTop (mkF m 172 #[.val (.int p0), .val (.int p1), .val (.int v3), .val (.ref b35), .val (.ref wL), .val (.ref b43), .val (.ref wL), .unset] [(.int (1 : Int32))])) (fun _ k => XS.goto X46.here hx rfl (pc0 := 168) (pc' := 172) rfl (hb hby at_168) (by decide) (by decide) k) ?_
        refine own_go (B := T46.setTop (mkF m 174 #[.val (.int p0), .val (.int p1), .val (.int v3), .val (.ref b35), .val (.ref wL), .val (.ref b43), .val (.ref wL), .val (.int (1 : Int32))] [])) (fun _ k => XS.istore X46.here hx rfl (hb hby at_172) rfl (l' := #[.val (.int p0), .val (.int p1), .val (.int v3), .val (.ref b35), .val (.ref wL), .val (.ref b43), .val (.ref wL), .val (.int (1 : Int32))]) rfl k) ?_
        refine own_go (B := T46.setTop (mkF m 175 #[.val (.int p0), .val (.int p1), .val (.int v3), .val (.ref b35), .val (.ref wL), .val (.ref b43), .val (.ref wL), .val (.int (1 : Int32))] [(.int p1)])) (fun _ k => XS.iloadN X46.here hx rfl (hb hby at_174) rfl k) ?_
        refine own_go (B := T46.setTop (mkF m 176 #[.val (.int p0), .val (.int p1), .val (.int v3), .val (.ref b35), .val (.ref wL), .val (.ref b43), .val (.ref wL), .val (.int (1 : Int32))] [(.int (1 : Int32)), (.int p1)])) (fun _ k => XS.iconst X46.here hx rfl (hb hby at_175) k) ?_
        refine own_go (B := T46.setTop (mkF m 177 #[.val (.int p0), .val (.int p1), .val (.int v3), .val (.ref b35), .val (.ref wL), .val (.ref b43), .val (.ref wL), .val (.int (1 : Int32))] [(.int (p1 &&& (1 : Int32)))])) (fun _ k => XS.iand X46.here hx rfl (hb hby at_176) rfl k) ?_
        by_cases hc177 : (p1 &&& (1 : Int32)) = (0 : Int32)
        · refine own_go (B := T46.setTop (mkF m 205 #[.val (.int p0), .val (.int p1), .val (.int v3), .val (.ref b35), .val (.ref wL), .val (.ref b43), .val (.ref wL), .val (.int (1 : Int32))] [])) (fun _ k => XS.ifYes X46.here hx rfl (pc0 := 177) (pc' := 205) rfl (hb hby at_177) rfl ((if0 _ _).trans (teq hc177).1) (by decide) (by decide) k) ?_
          refine own_go (B := T46.setTop (mkF m 207 #[.val (.int p0), .val (.int p1), .val (.int v3), .val (.ref b35), .val (.ref wL), .val (.ref b43), .val (.ref wL), .val (.int (1 : Int32))] [(.int (1 : Int32))])) (fun _ k => XS.iload X46.here hx rfl (hb hby at_205) rfl k) ?_
          obtain ⟨fs, hr, hrun, hended, hW, hsame⟩ := X46.leave (v := some (.int (nar .boolean (1 : Int32)))) (fun h => by rw [Bd.returns] at h; cases h)
          refine ⟨_, _, retN X46 hx (t := .boolean) Bd.returns (by simp) (hb hby at_207) hr, hrun, hended, _, _, rfl, ?_, ⟨_, rfl⟩, hW, hsame.mono (by decide) (by decide)⟩
          show Q_rm0 Z wA wV wD wL wN sA tA sD tD sL tL sN tN k_wV k_tA k_tD k_tL k_tN zC fm p0 p1 h0 n0 _ T46.heap _
          exact ⟨rfl, N46⟩
        · refine own_go (B := T46.setTop (mkF m 180 #[.val (.int p0), .val (.int p1), .val (.int v3), .val (.ref b35), .val (.ref wL), .val (.ref b43), .val (.ref wL), .val (.int (1 : Int32))] [])) (fun _ k => XS.ifNo X46.here hx rfl (hb hby at_177) rfl ((if0 _ _).trans (feq hc177).1) k) ?_
          refine own_go (B := T46.setTop (mkF m 182 #[.val (.int p0), .val (.int p1), .val (.int v3), .val (.ref b35), .val (.ref wL), .val (.ref b43), .val (.ref wL), .val (.int (1 : Int32))] [(.int (1 : Int32))])) (fun _ k => XS.iload X46.here hx rfl (hb hby at_180) rfl k) ?_
          refine own_go (B := T46.setTop (mkF m 185 #[.val (.int p0), .val (.int p1), .val (.int v3), .val (.ref b35), .val (.ref wL), .val (.ref b43), .val (.ref wL), .val (.int (1 : Int32))] [])) (fun _ k => XS.ifNo X46.here hx rfl (hb hby at_182) rfl ((if0 _ _).trans (feq (by decide : ¬ ((1 : Int32) = (0 : Int32)))).1) k) ?_
          refine own_go (B := T46.setTop (mkF m 187 #[.val (.int p0), .val (.int p1), .val (.int v3), .val (.ref b35), .val (.ref wL), .val (.ref b43), .val (.ref wL), .val (.int (1 : Int32))] [(.ref wL)])) (fun _ k => XS.aload X46.here hx rfl (hb hby at_185) rfl rfl k) ?_
          obtain ⟨T47, X47, e47, st47⟩ := getF X46 hx hZ hown (host := "") (Or.inl (hw _ (List.mem_of_getElem? (i := 66) rfl))) Via.refl rfl (F_word_wL.ext O46.2) (g := (mkF m 187 #[.val (.int p0), .val (.int p1), .val (.int v3), .val (.ref b35), .val (.ref wL), .val (.ref b43), .val (.ref wL), .val (.int (1 : Int32))] [(.ref wL)])) rfl rfl (hb hby at_187)
          refine own_go (B := T47.setTop (mkF m 190 #[.val (.int p0), .val (.int p1), .val (.int v3), .val (.ref b35), .val (.ref wL), .val (.ref b43), .val (.ref wL), .val (.int (1 : Int32))] [(.ref sL)])) (st47) ?_
          obtain ⟨_, _, ⟨T48, L48, k48, n48⟩, -, X48, ⟨Lc48, hQ48, l48, y48, z48⟩, st48⟩ := Jvm.LawKit.callS X47 hx (y := (⟨"com/example/rolegraph/rolegraph/ColumnRule$Kind", "of", "(Ljava/lang/String;)Lcom/example/rolegraph/rolegraph/ColumnRule$Kind;"⟩ : MethodName)) hown (mvT hZ (hw _ (List.mem_of_getElem? (i := 33) rfl))) (mvT hZ (hw _ (List.mem_of_getElem? (i := 34) rfl))) (mvT hZ (hw _ (List.mem_of_getElem? (i := 2) rfl))) (mvT hZ (hw _ (List.mem_of_getElem? (i := 35) rfl))) (by decide) (backOf (W := 0) (rm7 l Z a0 hw [] wA wV wD wL wN sA tA sD tD sL tL sN tN k_wV k_tA k_tD k_tL k_tN zC fm G sL [(97 : Int32), (108 : Int32), (108 : Int32)] T46.heap n0 (Nat.le_trans Z0 K46'.1) O46 (own_Str_ext O46.2 Sx_sL) (Or.inr (Or.inr (Or.inl rfl)))) hZ (hw _ (List.mem_of_getElem? (i := 35) rfl)) (hw _ (List.mem_of_getElem? (i := 2) rfl)) (by decide) (by decide)) (g := (mkF m 190 #[.val (.int p0), .val (.int p1), .val (.int v3), .val (.ref b35), .val (.ref wL), .val (.ref b43), .val (.ref wL), .val (.int (1 : Int32))] [(.ref sL)])) rfl (by rw [hml]; rfl) (argsL := [(.ref sL)]) (rest := []) (lenOf pd_3 rfl) rfl (by show 2 * 0 + _ ≤ _; exact Nat.le_of_eq rfl) (hb hby at_190) (fun _ _ => ⟨rfl, e47, (by decide : 4 + 1 ≤ 24), (by decide : 14 + 4 ≤ 128)⟩)
          dsimp only [Pt.U, Pt.locs, Pt.cells, Pt.slots] at X48 l48 y48 z48 st48 hQ48
          subst l48 y48 z48
          obtain ⟨rfl, N48q, K48⟩ := hQ48
          have N48 := Fr.app N46 N48q
          have O48 := O46.keep K48 all0
          have K48' : Keep h0 T48.heap ([] : List Addr) := K46'.trans K48 all0
          refine own_go (B := T48.setTop (mkF m 193 #[.val (.int p0), .val (.int p1), .val (.int v3), .val (.ref b35), .val (.ref wL), .val (.ref b43), .val (.ref wL), .val (.int (1 : Int32))] [(.ref (own_kind [(97 : Int32), (108 : Int32), (108 : Int32)] wA wD wL wN))])) (st48) ?_
          rw [show own_kind [(97 : Int32), (108 : Int32), (108 : Int32)] wA wD wL wN = wL from by simp [own_kind]]
          refine own_go (B := T48.setTop (mkF m 195 #[.val (.int p0), .val (.int p1), .val (.int v3), .val (.ref b35), .val (.ref wL), .val (.ref b43), .val (.ref wL), .val (.int (1 : Int32))] [(.ref wL), (.ref wL)])) (fun _ k => XS.aload X48.here hx rfl (hb hby at_193) rfl rfl k) ?_
          refine own_go (B := T48.setTop (mkF m 198 #[.val (.int p0), .val (.int p1), .val (.int v3), .val (.ref b35), .val (.ref wL), .val (.ref b43), .val (.ref wL), .val (.int (1 : Int32))] [])) (fun _ k => Jvm.RoadKit.acmp (g := (mkF m 195 #[.val (.int p0), .val (.int p1), .val (.int v3), .val (.ref b35), .val (.ref wL), .val (.ref b43), .val (.ref wL), .val (.int (1 : Int32))] [(.ref wL), (.ref wL)])) X48 hx rfl rfl rfl (pc0 := 195) (pc' := 198) (same := true) rfl (hb hby at_195) rfl (decide_eq_true rfl) (by decide) (by decide) k) ?_
          refine own_go (B := T48.setTop (mkF m 199 #[.val (.int p0), .val (.int p1), .val (.int v3), .val (.ref b35), .val (.ref wL), .val (.ref b43), .val (.ref wL), .val (.int (1 : Int32))] [(.int (1 : Int32))])) (fun _ k => XS.iconst X48.here hx rfl (hb hby at_198) k) ?_
          refine own_go (B := T48.setTop (mkF m 203 #[.val (.int p0), .val (.int p1), .val (.int v3), .val (.ref b35), .val (.ref wL), .val (.ref b43), .val (.ref wL), .val (.int (1 : Int32))] [(.int (1 : Int32))])) (fun _ k => XS.goto X48.here hx rfl (pc0 := 199) (pc' := 203) rfl (hb hby at_199) (by decide) (by decide) k) ?_
          refine own_go (B := T48.setTop (mkF m 205 #[.val (.int p0), .val (.int p1), .val (.int v3), .val (.ref b35), .val (.ref wL), .val (.ref b43), .val (.ref wL), .val (.int (1 : Int32))] [])) (fun _ k => XS.istore X48.here hx rfl (hb hby at_203) rfl (l' := #[.val (.int p0), .val (.int p1), .val (.int v3), .val (.ref b35), .val (.ref wL), .val (.ref b43), .val (.ref wL), .val (.int (1 : Int32))]) rfl k) ?_
          refine own_go (B := T48.setTop (mkF m 207 #[.val (.int p0), .val (.int p1), .val (.int v3), .val (.ref b35), .val (.ref wL), .val (.ref b43), .val (.ref wL), .val (.int (1 : Int32))] [(.int (1 : Int32))])) (fun _ k => XS.iload X48.here hx rfl (hb hby at_205) rfl k) ?_
          obtain ⟨fs, hr, hrun, hended, hW, hsame⟩ := X48.leave (v := some (.int (nar .boolean (1 : Int32)))) (fun h => by rw [Bd.returns] at h; cases h)
          refine ⟨_, _, retN X48 hx (t := .boolean) Bd.returns (by simp) (hb hby at_207) hr, hrun, hended, _, _, rfl, ?_, ⟨_, rfl⟩, hW, hsame.mono (by decide) (by decide)⟩
          show Q_rm0 Z wA wV wD wL wN sA tA sD tD sL tL sN tN k_wV k_tA k_tD k_tL k_tN zC fm p0 p1 h0 n0 _ T48.heap _
          exact ⟨rfl, N48⟩
      · refine own_go (B := s₁.setTop (mkF m 114 #[.val (.int p0), .val (.int p1), .val (.int v3), .unset, .unset, .unset, .unset, .unset] [])) (fun _ k => XS.icmpYes X0.here hx rfl (pc0 := 84) (pc' := 114) rfl (hb hby at_84) rfl (feq hc84).2 (by decide) (by decide) k) ?_
        refine own_go (B := s₁.setTop (mkF m 115 #[.val (.int p0), .val (.int p1), .val (.int v3), .unset, .unset, .unset, .unset, .unset] [(.int (4 : Int32))])) (fun _ k => XS.iconst X0.here hx rfl (hb hby at_114) k) ?_
        obtain ⟨T49, h49, k49, X49, e49, E49, A49, st49⟩ := newP X0 hx hZ (hw _ (List.mem_of_getElem? (i := 0) rfl)) e0 (g := (mkF m 115 #[.val (.int p0), .val (.int p1), .val (.int v3), .unset, .unset, .unset, .unset, .unset] [(.int (4 : Int32))])) rfl (hb hby at_115) rfl (by decide) (cap := 4) (by decide) (by decide) (by decide) (by decide)
        obtain ⟨b49, g49⟩ : ∃ z, z = h0.size := ⟨_, rfl⟩
        rw [← g49] at A49 st49
        have g_b49 : n0 ≤ b49 := Nat.le_trans (Nat.le_trans Z0 K0.1) (Nat.le_of_eq g49.symm)
        have sz_b49 : h0.size ≤ b49 := Nat.le_trans K0.1 (Nat.le_of_eq g49.symm)
        have O49 := O0.ext E49
        have K49' : Keep h0 h49 ([] : List Addr) := K0.ext E49
        have V_b49 : Arv Z h49 b49 k49 .char (4 : Int32) [(.int (0 : Int32)), (.int (0 : Int32)), (.int (0 : Int32)), (.int (0 : Int32))] (.int (0 : Int32)) := (Arv.new A49 (by decide)).pad (pad_rep [] (.int (0 : Int32)) 4)
        refine own_go (B := T49.setTop (mkF m 117 #[.val (.int p0), .val (.int p1), .val (.int v3), .unset, .unset, .unset, .unset, .unset] [(.ref b49)])) (st49) ?_
        refine own_go (B := T49.setTop (mkF m 118 #[.val (.int p0), .val (.int p1), .val (.int v3), .unset, .unset, .unset, .unset, .unset] [(.ref b49), (.ref b49)])) (fun _ k => XS.dup X49.here hx rfl (hb hby at_117) rfl rfl k) ?_
        refine own_go (B := T49.setTop (mkF m 119 #[.val (.int p0), .val (.int p1), .val (.int v3), .unset, .unset, .unset, .unset, .unset] [(.int (0 : Int32)), (.ref b49), (.ref b49)])) (fun _ k => XS.iconst X49.here hx rfl (hb hby at_118) k) ?_
        refine own_go (B := T49.setTop (mkF m 121 #[.val (.int p0), .val (.int p1), .val (.int v3), .unset, .unset, .unset, .unset, .unset] [(.int (110 : Int32)), (.int (0 : Int32)), (.ref b49), (.ref b49)])) (fun _ k => XS.bipush X49.here hx rfl (hb hby at_119) k) ?_
        obtain ⟨cl50, Ar50, q50, Sz50, Nn50, Hh50, Gg50⟩ := id V_b49
        have hin50 : ¬ ((0 : Int32) < 0 ∨ cl50.slots.size ≤ ((0 : Int32)).toNatClampNeg) := inb_of Sz50 ⟨by decide, by decide⟩
        obtain ⟨T51, h51, X51, e51, W51, st51⟩ := stC X49 hx hZ e49 Ar50 (j := (0 : Int32)) hin50 (g := (mkF m 121 #[.val (.int p0), .val (.int p1), .val (.int v3), .unset, .unset, .unset, .unset, .unset] [(.int (110 : Int32)), (.int (0 : Int32)), (.ref b49), (.ref b49)])) rfl rfl (hb hby at_121)
        rw [own_nar (c := (110 : Int32)) ⟨by decide, by decide⟩] at W51
        have V51 := Arv.set Ar50 q50 Sz50 Nn50 Hh50 Gg50 (own_nar (c := (110 : Int32)) ⟨by decide, by decide⟩ ▸ fits_nar_char (110 : Int32)) W51 0 rfl (Nat.le_of_ble_eq_true rfl)
        have O51 := O49.wr W51 g_b49
        have N51 := Fr.snoc X51 N0 g_b49
        have K51' : Keep h0 h51 ([] : List Addr) := K49'.wr W51 (Or.inr sz_b49)
        replace V51 : Arv Z h51 b49 k49 .char (4 : Int32) [(.int (110 : Int32)), (.int (0 : Int32)), (.int (0 : Int32)), (.int (0 : Int32))] (.int (0 : Int32)) := V51
        refine own_go (B := T51.setTop (mkF m 122 #[.val (.int p0), .val (.int p1), .val (.int v3), .unset, .unset, .unset, .unset, .unset] [(.ref b49)])) (st51) ?_
        refine own_go (B := T51.setTop (mkF m 123 #[.val (.int p0), .val (.int p1), .val (.int v3), .unset, .unset, .unset, .unset, .unset] [(.ref b49), (.ref b49)])) (fun _ k => XS.dup X51.here hx rfl (hb hby at_122) rfl rfl k) ?_
        refine own_go (B := T51.setTop (mkF m 124 #[.val (.int p0), .val (.int p1), .val (.int v3), .unset, .unset, .unset, .unset, .unset] [(.int (1 : Int32)), (.ref b49), (.ref b49)])) (fun _ k => XS.iconst X51.here hx rfl (hb hby at_123) k) ?_
        refine own_go (B := T51.setTop (mkF m 126 #[.val (.int p0), .val (.int p1), .val (.int v3), .unset, .unset, .unset, .unset, .unset] [(.int (111 : Int32)), (.int (1 : Int32)), (.ref b49), (.ref b49)])) (fun _ k => XS.bipush X51.here hx rfl (hb hby at_124) k) ?_
        obtain ⟨cl52, Ar52, q52, Sz52, Nn52, Hh52, Gg52⟩ := id V51
        have hin52 : ¬ ((1 : Int32) < 0 ∨ cl52.slots.size ≤ ((1 : Int32)).toNatClampNeg) := inb_of Sz52 ⟨by decide, by decide⟩
        obtain ⟨T53, h53, X53, e53, W53, st53⟩ := stC X51 hx hZ e51 Ar52 (j := (1 : Int32)) hin52 (g := (mkF m 126 #[.val (.int p0), .val (.int p1), .val (.int v3), .unset, .unset, .unset, .unset, .unset] [(.int (111 : Int32)), (.int (1 : Int32)), (.ref b49), (.ref b49)])) rfl rfl (hb hby at_126)
        rw [own_nar (c := (111 : Int32)) ⟨by decide, by decide⟩] at W53
        have V53 := Arv.set Ar52 q52 Sz52 Nn52 Hh52 Gg52 (own_nar (c := (111 : Int32)) ⟨by decide, by decide⟩ ▸ fits_nar_char (111 : Int32)) W53 1 rfl (Nat.le_of_ble_eq_true rfl)
        have O53 := O51.wr W53 g_b49
        have N53 := Fr.snoc X53 N51 g_b49
        have K53' : Keep h0 h53 ([] : List Addr) := K51'.wr W53 (Or.inr sz_b49)
        replace V53 : Arv Z h53 b49 k49 .char (4 : Int32) [(.int (110 : Int32)), (.int (111 : Int32)), (.int (0 : Int32)), (.int (0 : Int32))] (.int (0 : Int32)) := V53
        refine own_go (B := T53.setTop (mkF m 127 #[.val (.int p0), .val (.int p1), .val (.int v3), .unset, .unset, .unset, .unset, .unset] [(.ref b49)])) (st53) ?_
        refine own_go (B := T53.setTop (mkF m 128 #[.val (.int p0), .val (.int p1), .val (.int v3), .unset, .unset, .unset, .unset, .unset] [(.ref b49), (.ref b49)])) (fun _ k => XS.dup X53.here hx rfl (hb hby at_127) rfl rfl k) ?_
        refine own_go (B := T53.setTop (mkF m 129 #[.val (.int p0), .val (.int p1), .val (.int v3), .unset, .unset, .unset, .unset, .unset] [(.int (2 : Int32)), (.ref b49), (.ref b49)])) (fun _ k => XS.iconst X53.here hx rfl (hb hby at_128) k) ?_
        refine own_go (B := T53.setTop (mkF m 131 #[.val (.int p0), .val (.int p1), .val (.int v3), .unset, .unset, .unset, .unset, .unset] [(.int (110 : Int32)), (.int (2 : Int32)), (.ref b49), (.ref b49)])) (fun _ k => XS.bipush X53.here hx rfl (hb hby at_129) k) ?_
        obtain ⟨cl54, Ar54, q54, Sz54, Nn54, Hh54, Gg54⟩ := id V53
        have hin54 : ¬ ((2 : Int32) < 0 ∨ cl54.slots.size ≤ ((2 : Int32)).toNatClampNeg) := inb_of Sz54 ⟨by decide, by decide⟩
        obtain ⟨T55, h55, X55, e55, W55, st55⟩ := stC X53 hx hZ e53 Ar54 (j := (2 : Int32)) hin54 (g := (mkF m 131 #[.val (.int p0), .val (.int p1), .val (.int v3), .unset, .unset, .unset, .unset, .unset] [(.int (110 : Int32)), (.int (2 : Int32)), (.ref b49), (.ref b49)])) rfl rfl (hb hby at_131)
        rw [own_nar (c := (110 : Int32)) ⟨by decide, by decide⟩] at W55
        have V55 := Arv.set Ar54 q54 Sz54 Nn54 Hh54 Gg54 (own_nar (c := (110 : Int32)) ⟨by decide, by decide⟩ ▸ fits_nar_char (110 : Int32)) W55 2 rfl (Nat.le_of_ble_eq_true rfl)
        have O55 := O53.wr W55 g_b49
        have N55 := Fr.snoc X55 N53 g_b49
        have K55' : Keep h0 h55 ([] : List Addr) := K53'.wr W55 (Or.inr sz_b49)
        replace V55 : Arv Z h55 b49 k49 .char (4 : Int32) [(.int (110 : Int32)), (.int (111 : Int32)), (.int (110 : Int32)), (.int (0 : Int32))] (.int (0 : Int32)) := V55
        refine own_go (B := T55.setTop (mkF m 132 #[.val (.int p0), .val (.int p1), .val (.int v3), .unset, .unset, .unset, .unset, .unset] [(.ref b49)])) (st55) ?_
        refine own_go (B := T55.setTop (mkF m 133 #[.val (.int p0), .val (.int p1), .val (.int v3), .unset, .unset, .unset, .unset, .unset] [(.ref b49), (.ref b49)])) (fun _ k => XS.dup X55.here hx rfl (hb hby at_132) rfl rfl k) ?_
        refine own_go (B := T55.setTop (mkF m 134 #[.val (.int p0), .val (.int p1), .val (.int v3), .unset, .unset, .unset, .unset, .unset] [(.int (3 : Int32)), (.ref b49), (.ref b49)])) (fun _ k => XS.iconst X55.here hx rfl (hb hby at_133) k) ?_
        refine own_go (B := T55.setTop (mkF m 136 #[.val (.int p0), .val (.int p1), .val (.int v3), .unset, .unset, .unset, .unset, .unset] [(.int (101 : Int32)), (.int (3 : Int32)), (.ref b49), (.ref b49)])) (fun _ k => XS.bipush X55.here hx rfl (hb hby at_134) k) ?_
        obtain ⟨cl56, Ar56, q56, Sz56, Nn56, Hh56, Gg56⟩ := id V55
        have hin56 : ¬ ((3 : Int32) < 0 ∨ cl56.slots.size ≤ ((3 : Int32)).toNatClampNeg) := inb_of Sz56 ⟨by decide, by decide⟩
        obtain ⟨T57, h57, X57, e57, W57, st57⟩ := stC X55 hx hZ e55 Ar56 (j := (3 : Int32)) hin56 (g := (mkF m 136 #[.val (.int p0), .val (.int p1), .val (.int v3), .unset, .unset, .unset, .unset, .unset] [(.int (101 : Int32)), (.int (3 : Int32)), (.ref b49), (.ref b49)])) rfl rfl (hb hby at_136)
        rw [own_nar (c := (101 : Int32)) ⟨by decide, by decide⟩] at W57
        have V57 := Arv.set Ar56 q56 Sz56 Nn56 Hh56 Gg56 (own_nar (c := (101 : Int32)) ⟨by decide, by decide⟩ ▸ fits_nar_char (101 : Int32)) W57 3 rfl (Nat.le_of_ble_eq_true rfl)
        have O57 := O55.wr W57 g_b49
        have N57 := Fr.snoc X57 N55 g_b49
        have K57' : Keep h0 h57 ([] : List Addr) := K55'.wr W57 (Or.inr sz_b49)
        replace V57 : Arv Z h57 b49 k49 .char (4 : Int32) [(.int (110 : Int32)), (.int (111 : Int32)), (.int (110 : Int32)), (.int (101 : Int32))] (.int (0 : Int32)) := V57
        refine own_go (B := T57.setTop (mkF m 137 #[.val (.int p0), .val (.int p1), .val (.int v3), .unset, .unset, .unset, .unset, .unset] [(.ref b49)])) (st57) ?_
        refine own_go (B := T57.setTop (mkF m 138 #[.val (.int p0), .val (.int p1), .val (.int v3), .val (.ref b49), .unset, .unset, .unset, .unset] [])) (fun _ k => XS.astoreN X57.here hx rfl (hb hby at_137) rfl rfl (l' := #[.val (.int p0), .val (.int p1), .val (.int v3), .val (.ref b49), .unset, .unset, .unset, .unset]) rfl k) ?_
        obtain ⟨T58, X58, e58, st58⟩ := getS2 X57 hx hZ hown (host := "") (Or.inl (hw _ (List.mem_of_getElem? (i := 69) rfl))) Via.refl e57 (S_ColumnRule_Kind_NONE.ext O57.2) (g := (mkF m 138 #[.val (.int p0), .val (.int p1), .val (.int v3), .val (.ref b49), .unset, .unset, .unset, .unset] [])) rfl (hb hby at_138)
        refine own_go (B := T58.setTop (mkF m 141 #[.val (.int p0), .val (.int p1), .val (.int v3), .val (.ref b49), .unset, .unset, .unset, .unset] [(.ref wN)])) (st58) ?_
        refine own_go (B := T58.setTop (mkF m 143 #[.val (.int p0), .val (.int p1), .val (.int v3), .val (.ref b49), .val (.ref wN), .unset, .unset, .unset] [])) (fun _ k => XS.astore X58.here hx rfl (hb hby at_141) rfl rfl (l' := #[.val (.int p0), .val (.int p1), .val (.int v3), .val (.ref b49), .val (.ref wN), .unset, .unset, .unset]) rfl k) ?_
        obtain ⟨T59, h59, X59, e59, E59, A59, D59, -, st59⟩ := newO X58 hx hZ hown (hw _ (List.mem_of_getElem? (i := 4) rfl)) (hw _ (List.mem_of_getElem? (i := 5) rfl)) (hw _ (List.mem_of_getElem? (i := 6) rfl)) e58 (g := (mkF m 143 #[.val (.int p0), .val (.int p1), .val (.int v3), .val (.ref b49), .val (.ref wN), .unset, .unset, .unset] [])) rfl (hb hby at_143) (by decide) (by decide)
        obtain ⟨b59, g59⟩ : ∃ z, z = h57.size := ⟨_, rfl⟩
        rw [← g59] at A59 D59 st59
        have g_b59 : n0 ≤ b59 := Nat.le_trans (Nat.le_trans Z0 K57'.1) (Nat.le_of_eq g59.symm)
        have sz_b59 : h0.size ≤ b59 := Nat.le_trans K57'.1 (Nat.le_of_eq g59.symm)
        have ne59_1 : b49 ≠ b59 := Nat.ne_of_lt (Nat.lt_of_lt_of_le V57.lt (Nat.le_of_eq g59.symm))
        have O59 := O57.ext E59
        have K59' : Keep h0 h59 ([] : List Addr) := K57'.ext E59
        have F_coder_b59 : Fld Z h59 b59 "java/lang/String" "coder" "B" (.int (0 : Int32)) := D59 (Or.inr (hw _ (List.mem_of_getElem? (i := 30) rfl))) (ty := .byte) (by decide)
        have F_value_b59 : Fld Z h59 b59 "java/lang/String" "value" "[B" .null := D59 (Or.inr (hw _ (List.mem_of_getElem? (i := 32) rfl))) (ty := (.array .byte)) (by decide)
        refine own_go (B := T59.setTop (mkF m 146 #[.val (.int p0), .val (.int p1), .val (.int v3), .val (.ref b49), .val (.ref wN), .unset, .unset, .unset] [(.ref b59)])) (st59) ?_
        refine own_go (B := T59.setTop (mkF m 147 #[.val (.int p0), .val (.int p1), .val (.int v3), .val (.ref b49), .val (.ref wN), .unset, .unset, .unset] [(.ref b59), (.ref b59)])) (fun _ k => XS.dup X59.here hx rfl (hb hby at_146) rfl rfl k) ?_
        refine own_go (B := T59.setTop (mkF m 148 #[.val (.int p0), .val (.int p1), .val (.int v3), .val (.ref b49), .val (.ref wN), .unset, .unset, .unset] [(.ref b49), (.ref b59), (.ref b59)])) (fun _ k => XS.aloadN X59.here hx rfl (hb hby at_147) rfl rfl k) ?_
        obtain ⟨_, _, ⟨T60, L60, k60, n60⟩, -, X60, ⟨Lc60, hQ60, l60, y60, z60⟩, st60⟩ := X59.specialBack hx (y := (⟨"java/lang/String", "<init>", "([C)V"⟩ : MethodName)) rfl hown (mvT hZ (hw _ (List.mem_of_getElem? (i := 7) rfl))) (mvT hZ (hw _ (List.mem_of_getElem? (i := 8) rfl))) (mvT hZ (hw _ (List.mem_of_getElem? (i := 9) rfl))) (by decide) (own_newS (W := 1) hZ hw 4 n0 g_b59 (Nat.le_trans Z0 K59'.1) A59 F_value_b59 F_coder_b59 (V57.ext E59) (cs := [(110 : Int32), (111 : Int32), (110 : Int32), (101 : Int32)]) rfl (S_String_COMPACT_STRINGS.ext O59.2) hzC rfl rfl (by decide) (by decide) (by decide) (by decide) (by decide)) (g := (mkF m 148 #[.val (.int p0), .val (.int p1), .val (.int v3), .val (.ref b49), .val (.ref wN), .unset, .unset, .unset] [(.ref b49), (.ref b59), (.ref b59)])) rfl (by rw [hml]; rfl) (Steps.refl _) (a := b59) (argsL := [(.ref b49)]) (rest := [(.ref b59)]) (lenOf pd_2 rfl) rfl (by show 2 * 0 + _ ≤ _; exact Nat.le_of_eq rfl) (hb hby at_148) (fun _ _ => ⟨rfl, e59, (by decide : 2 + 1 ≤ 24), (by decide : 8 + 4 ≤ 128)⟩)
        dsimp only [Pt.U, Pt.locs, Pt.cells, Pt.slots] at X60 l60 y60 z60 st60 hQ60
        subst l60 y60 z60
        obtain ⟨rfl, N60q, K60, Str_60⟩ := hQ60
        have N60 := Fr.app N57 N60q
        have O60 := O59.keep K60 (allS g_b59 all0)
        have K60' : Keep h0 T60.heap ([] : List Addr) := K59'.trans K60 (allS (Or.inr sz_b59) all0)
        obtain ⟨t61, kb61, Nb61, vs61, Es61, Fv61, Fc61, Vb61, cd61, rg61, ln61⟩ := Str_60
        refine own_go (B := T60.setTop (mkF m 151 #[.val (.int p0), .val (.int p1), .val (.int v3), .val (.ref b49), .val (.ref wN), .unset, .unset, .unset] [(.ref b59)])) (fun _ k => st60.trans k) ?_
        refine own_go (B := T60.setTop (mkF m 153 #[.val (.int p0), .val (.int p1), .val (.int v3), .val (.ref b49), .val (.ref wN), .val (.ref b59), .unset, .unset] [])) (fun _ k => XS.astore X60.here hx rfl (hb hby at_151) rfl rfl (l' := #[.val (.int p0), .val (.int p1), .val (.int v3), .val (.ref b49), .val (.ref wN), .val (.ref b59), .unset, .unset]) rfl k) ?_
        refine own_go (B := T60.setTop (mkF m 155 #[.val (.int p0), .val (.int p1), .val (.int v3), .val (.ref b49), .val (.ref wN), .val (.ref b59), .unset, .unset] [(.ref b59)])) (fun _ k => XS.aload X60.here hx rfl (hb hby at_153) rfl rfl k) ?_
        obtain ⟨_, _, ⟨T62, L62, k62, n62⟩, -, X62, ⟨Lc62, hQ62, l62, y62, z62⟩, st62⟩ := Jvm.LawKit.callS X60 hx (y := (⟨"com/example/rolegraph/rolegraph/ColumnRule$Kind", "of", "(Ljava/lang/String;)Lcom/example/rolegraph/rolegraph/ColumnRule$Kind;"⟩ : MethodName)) hown (mvT hZ (hw _ (List.mem_of_getElem? (i := 33) rfl))) (mvT hZ (hw _ (List.mem_of_getElem? (i := 34) rfl))) (mvT hZ (hw _ (List.mem_of_getElem? (i := 2) rfl))) (mvT hZ (hw _ (List.mem_of_getElem? (i := 35) rfl))) (by decide) (backOf (W := 0) (rm7 l Z a0 hw [] wA wV wD wL wN sA tA sD tD sL tL sN tN k_wV k_tA k_tD k_tL k_tN zC fm G b59 [(110 : Int32), (111 : Int32), (110 : Int32), (101 : Int32)] T60.heap n0 (Nat.le_trans Z0 K60'.1) O60 (⟨t61, kb61, Nb61, vs61, Es61, Fv61, Fc61, Vb61, cd61, rg61, ln61⟩ : own_Str Z T60.heap b59 [(110 : Int32), (111 : Int32), (110 : Int32), (101 : Int32)]) (Or.inr (Or.inr (Or.inr rfl)))) hZ (hw _ (List.mem_of_getElem? (i := 35) rfl)) (hw _ (List.mem_of_getElem? (i := 2) rfl)) (by decide) (by decide)) (g := (mkF m 155 #[.val (.int p0), .val (.int p1), .val (.int v3), .val (.ref b49), .val (.ref wN), .val (.ref b59), .unset, .unset] [(.ref b59)])) rfl (by rw [hml]; rfl) (argsL := [(.ref b59)]) (rest := []) (lenOf pd_3 rfl) rfl (by show 2 * 0 + _ ≤ _; exact Nat.le_of_eq rfl) (hb hby at_155) (fun _ _ => ⟨rfl, rfl, (by decide : 3 + 1 ≤ 24), (by decide : 12 + 4 ≤ 128)⟩)
        dsimp only [Pt.U, Pt.locs, Pt.cells, Pt.slots] at X62 l62 y62 z62 st62 hQ62
        subst l62 y62 z62
        obtain ⟨rfl, N62q, K62⟩ := hQ62
        have N62 := Fr.app N60 N62q
        have O62 := O60.keep K62 all0
        have K62' : Keep h0 T62.heap ([] : List Addr) := K60'.trans K62 all0
        refine own_go (B := T62.setTop (mkF m 158 #[.val (.int p0), .val (.int p1), .val (.int v3), .val (.ref b49), .val (.ref wN), .val (.ref b59), .unset, .unset] [(.ref (own_kind [(110 : Int32), (111 : Int32), (110 : Int32), (101 : Int32)] wA wD wL wN))])) (st62) ?_
        rw [show own_kind [(110 : Int32), (111 : Int32), (110 : Int32), (101 : Int32)] wA wD wL wN = wN from by simp [own_kind]]
        refine own_go (B := T62.setTop (mkF m 160 #[.val (.int p0), .val (.int p1), .val (.int v3), .val (.ref b49), .val (.ref wN), .val (.ref b59), .val (.ref wN), .unset] [])) (fun _ k => XS.astore X62.here hx rfl (hb hby at_158) rfl rfl (l' := #[.val (.int p0), .val (.int p1), .val (.int v3), .val (.ref b49), .val (.ref wN), .val (.ref b59), .val (.ref wN), .unset]) rfl k) ?_
        refine own_go (B := T62.setTop (mkF m 162 #[.val (.int p0), .val (.int p1), .val (.int v3), .val (.ref b49), .val (.ref wN), .val (.ref b59), .val (.ref wN), .unset] [(.ref wN)])) (fun _ k => XS.aload X62.here hx rfl (hb hby at_160) rfl rfl k) ?_
        refine own_go (B := T62.setTop (mkF m 164 #[.val (.int p0), .val (.int p1), .val (.int v3), .val (.ref b49), .val (.ref wN), .val (.ref b59), .val (.ref wN), .unset] [(.ref wN), (.ref wN)])) (fun _ k => XS.aload X62.here hx rfl (hb hby at_162) rfl rfl k) ?_
        refine own_go (B := T62.setTop (mkF m 167 #[.val (.int p0), .val (.int p1), .val (.int v3), .val (.ref b49), .val (.ref wN), .val (.ref b59), .val (.ref wN), .unset] [])) (fun _ k => Jvm.RoadKit.acmp (g := (mkF m 164 #[.val (.int p0), .val (.int p1), .val (.int v3), .val (.ref b49), .val (.ref wN), .val (.ref b59), .val (.ref wN), .unset] [(.ref wN), (.ref wN)])) X62 hx rfl rfl rfl (pc0 := 164) (pc' := 167) (same := true) rfl (hb hby at_164) rfl (decide_eq_true rfl) (by decide) (by decide) k) ?_
        refine own_go (B := T62.setTop (mkF m 168 #[.val (.int p0), .val (.int p1), .val (.int v3), .val (.ref b49), .val (.ref wN), .val (.ref b59), .val (.ref wN), .unset] [(.int (1 : Int32))])) (fun _ k => XS.iconst X62.here hx rfl (hb hby at_167) k) ?_
        refine own_go (B := T62.setTop (mkF m 172 #[.val (.int p0), .val (.int p1), .val (.int v3), .val (.ref b49), .val (.ref wN), .val (.ref b59), .val (.ref wN), .unset] [(.int (1 : Int32))])) (fun _ k => XS.goto X62.here hx rfl (pc0 := 168) (pc' := 172) rfl (hb hby at_168) (by decide) (by decide) k) ?_
        refine own_go (B := T62.setTop (mkF m 174 #[.val (.int p0), .val (.int p1), .val (.int v3), .val (.ref b49), .val (.ref wN), .val (.ref b59), .val (.ref wN), .val (.int (1 : Int32))] [])) (fun _ k => XS.istore X62.here hx rfl (hb hby at_172) rfl (l' := #[.val (.int p0), .val (.int p1), .val (.int v3), .val (.ref b49), .val (.ref wN), .val (.ref b59), .val (.ref wN), .val (.int (1 : Int32))]) rfl k) ?_
        refine own_go (B := T62.setTop (mkF m 175 #[.val (.int p0), .val (.int p1), .val (.int v3), .val (.ref b49), .val (.ref wN), .val (.ref b59), .val (.ref wN), .val (.int (1 : Int32))] [(.int p1)])) (fun _ k => XS.iloadN X62.here hx rfl (hb hby at_174) rfl k) ?_
        refine own_go (B := T62.setTop (mkF m 176 #[.val (.int p0), .val (.int p1), .val (.int v3), .val (.ref b49), .val (.ref wN), .val (.ref b59), .val (.ref wN), .val (.int (1 : Int32))] [(.int (1 : Int32)), (.int p1)])) (fun _ k => XS.iconst X62.here hx rfl (hb hby at_175) k) ?_
        refine own_go (B := T62.setTop (mkF m 177 #[.val (.int p0), .val (.int p1), .val (.int v3), .val (.ref b49), .val (.ref wN), .val (.ref b59), .val (.ref wN), .val (.int (1 : Int32))] [(.int (p1 &&& (1 : Int32)))])) (fun _ k => XS.iand X62.here hx rfl (hb hby at_176) rfl k) ?_
        by_cases hc177 : (p1 &&& (1 : Int32)) = (0 : Int32)
        · refine own_go (B := T62.setTop (mkF m 205 #[.val (.int p0), .val (.int p1), .val (.int v3), .val (.ref b49), .val (.ref wN), .val (.ref b59), .val (.ref wN), .val (.int (1 : Int32))] [])) (fun _ k => XS.ifYes X62.here hx rfl (pc0 := 177) (pc' := 205) rfl (hb hby at_177) rfl ((if0 _ _).trans (teq hc177).1) (by decide) (by decide) k) ?_
          refine own_go (B := T62.setTop (mkF m 207 #[.val (.int p0), .val (.int p1), .val (.int v3), .val (.ref b49), .val (.ref wN), .val (.ref b59), .val (.ref wN), .val (.int (1 : Int32))] [(.int (1 : Int32))])) (fun _ k => XS.iload X62.here hx rfl (hb hby at_205) rfl k) ?_
          obtain ⟨fs, hr, hrun, hended, hW, hsame⟩ := X62.leave (v := some (.int (nar .boolean (1 : Int32)))) (fun h => by rw [Bd.returns] at h; cases h)
          refine ⟨_, _, retN X62 hx (t := .boolean) Bd.returns (by simp) (hb hby at_207) hr, hrun, hended, _, _, rfl, ?_, ⟨_, rfl⟩, hW, hsame.mono (by decide) (by decide)⟩
          show Q_rm0 Z wA wV wD wL wN sA tA sD tD sL tL sN tN k_wV k_tA k_tD k_tL k_tN zC fm p0 p1 h0 n0 _ T62.heap _
          exact ⟨rfl, N62⟩
        · refine own_go (B := T62.setTop (mkF m 180 #[.val (.int p0), .val (.int p1), .val (.int v3), .val (.ref b49), .val (.ref wN), .val (.ref b59), .val (.ref wN), .val (.int (1 : Int32))] [])) (fun _ k => XS.ifNo X62.here hx rfl (hb hby at_177) rfl ((if0 _ _).trans (feq hc177).1) k) ?_
          refine own_go (B := T62.setTop (mkF m 182 #[.val (.int p0), .val (.int p1), .val (.int v3), .val (.ref b49), .val (.ref wN), .val (.ref b59), .val (.ref wN), .val (.int (1 : Int32))] [(.int (1 : Int32))])) (fun _ k => XS.iload X62.here hx rfl (hb hby at_180) rfl k) ?_
          refine own_go (B := T62.setTop (mkF m 185 #[.val (.int p0), .val (.int p1), .val (.int v3), .val (.ref b49), .val (.ref wN), .val (.ref b59), .val (.ref wN), .val (.int (1 : Int32))] [])) (fun _ k => XS.ifNo X62.here hx rfl (hb hby at_182) rfl ((if0 _ _).trans (feq (by decide : ¬ ((1 : Int32) = (0 : Int32)))).1) k) ?_
          refine own_go (B := T62.setTop (mkF m 187 #[.val (.int p0), .val (.int p1), .val (.int v3), .val (.ref b49), .val (.ref wN), .val (.ref b59), .val (.ref wN), .val (.int (1 : Int32))] [(.ref wN)])) (fun _ k => XS.aload X62.here hx rfl (hb hby at_185) rfl rfl k) ?_
          obtain ⟨T63, X63, e63, st63⟩ := getF X62 hx hZ hown (host := "") (Or.inl (hw _ (List.mem_of_getElem? (i := 66) rfl))) Via.refl rfl (F_word_wN.ext O62.2) (g := (mkF m 187 #[.val (.int p0), .val (.int p1), .val (.int v3), .val (.ref b49), .val (.ref wN), .val (.ref b59), .val (.ref wN), .val (.int (1 : Int32))] [(.ref wN)])) rfl rfl (hb hby at_187)
          refine own_go (B := T63.setTop (mkF m 190 #[.val (.int p0), .val (.int p1), .val (.int v3), .val (.ref b49), .val (.ref wN), .val (.ref b59), .val (.ref wN), .val (.int (1 : Int32))] [(.ref sN)])) (st63) ?_
          obtain ⟨_, _, ⟨T64, L64, k64, n64⟩, -, X64, ⟨Lc64, hQ64, l64, y64, z64⟩, st64⟩ := Jvm.LawKit.callS X63 hx (y := (⟨"com/example/rolegraph/rolegraph/ColumnRule$Kind", "of", "(Ljava/lang/String;)Lcom/example/rolegraph/rolegraph/ColumnRule$Kind;"⟩ : MethodName)) hown (mvT hZ (hw _ (List.mem_of_getElem? (i := 33) rfl))) (mvT hZ (hw _ (List.mem_of_getElem? (i := 34) rfl))) (mvT hZ (hw _ (List.mem_of_getElem? (i := 2) rfl))) (mvT hZ (hw _ (List.mem_of_getElem? (i := 35) rfl))) (by decide) (backOf (W := 0) (rm7 l Z a0 hw [] wA wV wD wL wN sA tA sD tD sL tL sN tN k_wV k_tA k_tD k_tL k_tN zC fm G sN [(110 : Int32), (111 : Int32), (110 : Int32), (101 : Int32)] T62.heap n0 (Nat.le_trans Z0 K62'.1) O62 (own_Str_ext O62.2 Sx_sN) (Or.inr (Or.inr (Or.inr rfl)))) hZ (hw _ (List.mem_of_getElem? (i := 35) rfl)) (hw _ (List.mem_of_getElem? (i := 2) rfl)) (by decide) (by decide)) (g := (mkF m 190 #[.val (.int p0), .val (.int p1), .val (.int v3), .val (.ref b49), .val (.ref wN), .val (.ref b59), .val (.ref wN), .val (.int (1 : Int32))] [(.ref sN)])) rfl (by rw [hml]; rfl) (argsL := [(.ref sN)]) (rest := []) (lenOf pd_3 rfl) rfl (by show 2 * 0 + _ ≤ _; exact Nat.le_of_eq rfl) (hb hby at_190) (fun _ _ => ⟨rfl, e63, (by decide : 4 + 1 ≤ 24), (by decide : 16 + 4 ≤ 128)⟩)
          dsimp only [Pt.U, Pt.locs, Pt.cells, Pt.slots] at X64 l64 y64 z64 st64 hQ64
          subst l64 y64 z64
          obtain ⟨rfl, N64q, K64⟩ := hQ64
          have N64 := Fr.app N62 N64q
          have O64 := O62.keep K64 all0
          have K64' : Keep h0 T64.heap ([] : List Addr) := K62'.trans K64 all0
          refine own_go (B := T64.setTop (mkF m 193 #[.val (.int p0), .val (.int p1), .val (.int v3), .val (.ref b49), .val (.ref wN), .val (.ref b59), .val (.ref wN), .val (.int (1 : Int32))] [(.ref (own_kind [(110 : Int32), (111 : Int32), (110 : Int32), (101 : Int32)] wA wD wL wN))])) (st64) ?_
          rw [show own_kind [(110 : Int32), (111 : Int32), (110 : Int32), (101 : Int32)] wA wD wL wN = wN from by simp [own_kind]]
          refine own_go (B := T64.setTop (mkF m 195 #[.val (.int p0), .val (.int p1), .val (.int v3), .val (.ref b49), .val (.ref wN), .val (.ref b59), .val (.ref wN), .val (.int (1 : Int32))] [(.ref wN), (.ref wN)])) (fun _ k => XS.aload X64.here hx rfl (hb hby at_193) rfl rfl k) ?_
          refine own_go (B := T64.setTop (mkF m 198 #[.val (.int p0), .val (.int p1), .val (.int v3), .val (.ref b49), .val (.ref wN), .val (.ref b59), .val (.ref wN), .val (.int (1 : Int32))] [])) (fun _ k => Jvm.RoadKit.acmp (g := (mkF m 195 #[.val (.int p0), .val (.int p1), .val (.int v3), .val (.ref b49), .val (.ref wN), .val (.ref b59), .val (.ref wN), .val (.int (1 : Int32))] [(.ref wN), (.ref wN)])) X64 hx rfl rfl rfl (pc0 := 195) (pc' := 198) (same := true) rfl (hb hby at_195) rfl (decide_eq_true rfl) (by decide) (by decide) k) ?_
          refine own_go (B := T64.setTop (mkF m 199 #[.val (.int p0), .val (.int p1), .val (.int v3), .val (.ref b49), .val (.ref wN), .val (.ref b59), .val (.ref wN), .val (.int (1 : Int32))] [(.int (1 : Int32))])) (fun _ k => XS.iconst X64.here hx rfl (hb hby at_198) k) ?_
          refine own_go (B := T64.setTop (mkF m 203 #[.val (.int p0), .val (.int p1), .val (.int v3), .val (.ref b49), .val (.ref wN), .val (.ref b59), .val (.ref wN), .val (.int (1 : Int32))] [(.int (1 : Int32))])) (fun _ k => XS.goto X64.here hx rfl (pc0 := 199) (pc' := 203) rfl (hb hby at_199) (by decide) (by decide) k) ?_
          refine own_go (B := T64.setTop (mkF m 205 #[.val (.int p0), .val (.int p1), .val (.int v3), .val (.ref b49), .val (.ref wN), .val (.ref b59), .val (.ref wN), .val (.int (1 : Int32))] [])) (fun _ k => XS.istore X64.here hx rfl (hb hby at_203) rfl (l' := #[.val (.int p0), .val (.int p1), .val (.int v3), .val (.ref b49), .val (.ref wN), .val (.ref b59), .val (.ref wN), .val (.int (1 : Int32))]) rfl k) ?_
          refine own_go (B := T64.setTop (mkF m 207 #[.val (.int p0), .val (.int p1), .val (.int v3), .val (.ref b49), .val (.ref wN), .val (.ref b59), .val (.ref wN), .val (.int (1 : Int32))] [(.int (1 : Int32))])) (fun _ k => XS.iload X64.here hx rfl (hb hby at_205) rfl k) ?_
          obtain ⟨fs, hr, hrun, hended, hW, hsame⟩ := X64.leave (v := some (.int (nar .boolean (1 : Int32)))) (fun h => by rw [Bd.returns] at h; cases h)
          refine ⟨_, _, retN X64 hx (t := .boolean) Bd.returns (by simp) (hb hby at_207) hr, hrun, hended, _, _, rfl, ?_, ⟨_, rfl⟩, hW, hsame.mono (by decide) (by decide)⟩
          show Q_rm0 Z wA wV wD wL wN sA tA sD tD sL tL sN tN k_wV k_tA k_tD k_tL k_tN zC fm p0 p1 h0 n0 _ T64.heap _
          exact ⟨rfl, N64⟩
set_option maxRecDepth 65536 in
set_option maxHeartbeats 40000000 in
theorem comes_1 {Post : Tables → Env → Array Value → State → Outcome → State → Prop} (hpost : ∀ tb e args s v u, (limb_1_1.after args s (.returned v) u = true ∧ limb_1_2.after args s (.returned v) u = true ∧ True) → FrameEnd s (.returned v) u (Jvm.fieldLocs frame_1_writes args s ++ Jvm.arrayLocs frame_1_arrays args s ++ Jvm.staticLocs frame_1_statics s) 24 128 → Post tb e args s (.returned v) u) :
    ArmFor flags0 classFile x code maxLocals ret World_1 tables_1 room_1 Calls_1 rest_1 Pre_1 Post := by
  intro l hfl _ _ p e ha hc hk s m args below hf hA hF happ hP
  obtain ⟨hcalls, hrest, hpre⟩ := hP
  obtain ⟨-, -, -, hnamed, -, -, -, hat⟩ := (Spec.applies_iff hf).mp happ
  obtain ⟨hg, hn⟩ := and_e (Cond.before_iff.mp (show (Jvm.Cond.and given_1 narrow_1).before args s = true from hpre))
  obtain ⟨hcount, hg1⟩ := and_e hg
  obtain ⟨ga0, hg1'⟩ := and_e hg1
  obtain ⟨w0, w1, rfl⟩ : ∃ w0 w1 : Value, args = #[w0, w1] := by
    have hs : args.size = 2 := by simpa [Cond.value, given_1] using hcount
    obtain ⟨L⟩ := args
    match L, hs with
    | [w0, w1], _ => exact ⟨w0, w1, rfl⟩
  have hw := fun d (hd : d ∈ tables_1) => atoms_spec (ws := Jvm.Cond.code x code maxLocals ret :: tables_1) hat d (List.mem_cons_of_mem _ hd)
  have hfit : Fit s := fun {y c} hc i hi => by
    obtain ⟨ha, rfl⟩ := Array.getElem?_eq_some_iff.mp hc
    have q := List.all_eq_true.mp ((Array.all_eq_true_iff_forall_mem.mp hF) _ (Array.getElem_mem ha)) i (List.mem_range.mpr hi)
    simpa [Array.getElem?_eq_getElem hi] using q
  obtain ⟨hsets, hown0⟩ := atoms_of _ (rest_1_c_eq ▸ (show rest_1_c.before _ s = true from hrest))
  have hr0 := Cond.before_iff.mp hown0
  obtain ⟨i0, ei0⟩ := is_v ga0
  obtain rfl : w0 = (.int i0) := Option.some.inj ei0
  obtain ⟨i1, ei1⟩ := is_v hg1'
  obtain rfl : w1 = (.int i1) := Option.some.inj ei1
  obtain ⟨hN1, hN1'⟩ := and_e hn
  obtain ⟨hN2, hN2'⟩ := and_e hN1'
  obtain ⟨hN3, hN3'⟩ := and_e hN2'
  obtain ⟨hN4, hN4'⟩ := and_e hN3'
  obtain ⟨hN5, hN5'⟩ := and_e hN4'
  obtain ⟨hN6, hN6'⟩ := and_e hN5'
  obtain ⟨hN7, hN7'⟩ := and_e hN6'
  obtain ⟨hN8, hN8'⟩ := and_e hN7'
  obtain ⟨hN9, hN9'⟩ := and_e hN8'
  obtain ⟨hN10, hN10'⟩ := and_e hN9'
  obtain ⟨hN11, hN11'⟩ := and_e hN10'
  obtain ⟨hN12, hN12'⟩ := and_e hN11'
  obtain ⟨hN13, hN13'⟩ := and_e hN12'
  obtain ⟨hN14, hN14'⟩ := and_e hN13'
  obtain ⟨hN15, hN15'⟩ := and_e hN14'
  obtain ⟨hN16, hN16'⟩ := and_e hN15'
  obtain ⟨hN17, hN17'⟩ := and_e hN16'
  obtain ⟨hN18, hN18'⟩ := and_e hN17'
  obtain ⟨hN19, hN19'⟩ := and_e hN18'
  obtain ⟨hN20, hN20'⟩ := and_e hN19'
  obtain ⟨hN21, hN21'⟩ := and_e hN20'
  obtain ⟨hN22, hN22'⟩ := and_e hN21'
  obtain ⟨hN23, hN23'⟩ := and_e hN22'
  obtain ⟨hN24, hN24'⟩ := and_e hN23'
  obtain ⟨hN25, hN25'⟩ := and_e hN24'
  obtain ⟨hN26, hN26'⟩ := and_e hN25'
  obtain ⟨hN27, hN27'⟩ := and_e hN26'
  obtain ⟨hN28, hN28'⟩ := and_e hN27'
  obtain ⟨hN29, hN29'⟩ := and_e hN28'
  obtain ⟨hN30, hN30'⟩ := and_e hN29'
  obtain ⟨hN31, hN31'⟩ := and_e hN30'
  obtain ⟨hN32, hN32'⟩ := and_e hN31'
  obtain ⟨hN33, hN33'⟩ := and_e hN32'
  obtain ⟨hN34, hN34'⟩ := and_e hN33'
  obtain ⟨hN35, hN35'⟩ := and_e hN34'
  obtain ⟨hN36, hN36'⟩ := and_e hN35'
  obtain ⟨hN37, hN37'⟩ := and_e hN36'
  obtain ⟨hN38, hN38'⟩ := and_e hN37'
  obtain ⟨hN39, hN39'⟩ := and_e hN38'
  obtain ⟨hN40, hN40'⟩ := and_e hN39'
  obtain ⟨hN41, hN41'⟩ := and_e hN40'
  obtain ⟨hN42, hN42'⟩ := and_e hN41'
  obtain ⟨hN43, hN43'⟩ := and_e hN42'
  obtain ⟨hN44, hN44'⟩ := and_e hN43'
  obtain ⟨hN45, hN45'⟩ := and_e hN44'
  obtain ⟨hN46, hN46'⟩ := and_e hN45'
  obtain ⟨hN47, hN47'⟩ := and_e hN46'
  obtain ⟨hN48, hN48'⟩ := and_e hN47'
  obtain ⟨wA, ev_wA⟩ := exa_v hN1
  have S_ColumnRule_Kind_ALLOW := Sta.start ev_wA (Or.inr ⟨(hw _ (List.mem_of_getElem? (i := 2) rfl)), (hw _ (List.mem_of_getElem? (i := 3) rfl))⟩)
  have E_wA := Exa.start ev_wA hN1
  obtain ⟨wV, ev_wV⟩ := arr_v hN2
  have S_ColumnRule_Kind_VALUES := Sta.start ev_wV (Or.inr ⟨(hw _ (List.mem_of_getElem? (i := 2) rfl)), (hw _ (List.mem_of_getElem? (i := 40) rfl))⟩)
  obtain ⟨cl_wV, Ar_wV⟩ := Arr.start ev_wV hN2
  have E_wV := Exa.start ev_wV hN3
  obtain ⟨wD, ev_wD⟩ := exa_v hN6
  have S_ColumnRule_Kind_DENY := Sta.start ev_wD (Or.inr ⟨(hw _ (List.mem_of_getElem? (i := 2) rfl)), (hw _ (List.mem_of_getElem? (i := 48) rfl))⟩)
  have E_wD := Exa.start ev_wD hN6
  obtain ⟨wL, ev_wL⟩ := exa_v hN8
  have S_ColumnRule_Kind_ALL := Sta.start ev_wL (Or.inr ⟨(hw _ (List.mem_of_getElem? (i := 2) rfl)), (hw _ (List.mem_of_getElem? (i := 49) rfl))⟩)
  have E_wL := Exa.start ev_wL hN8
  obtain ⟨wN, ev_wN⟩ := exa_v hN10
  have S_ColumnRule_Kind_NONE := Sta.start ev_wN (Or.inr ⟨(hw _ (List.mem_of_getElem? (i := 2) rfl)), (hw _ (List.mem_of_getElem? (i := 50) rfl))⟩)
  have E_wN := Exa.start ev_wN hN10
  obtain ⟨sA, ev_sA⟩ := exa_v hN12
  have F_word_wA := Fld.start ((fld_at ev_wA).symm.trans ev_sA)
  have E_sA := Exa.start ev_sA hN12
  obtain ⟨tA, ev_tA⟩ := arr_v hN14
  have F_value_sA := Fld.start ((fld_at ev_sA).symm.trans ev_tA)
  obtain ⟨cl_tA, Ar_tA⟩ := Arr.start ev_tA hN14
  obtain ⟨sD, ev_sD⟩ := exa_v hN16
  have F_word_wD := Fld.start ((fld_at ev_wD).symm.trans ev_sD)
  have E_sD := Exa.start ev_sD hN16
  obtain ⟨tD, ev_tD⟩ := arr_v hN18
  have F_value_sD := Fld.start ((fld_at ev_sD).symm.trans ev_tD)
  obtain ⟨cl_tD, Ar_tD⟩ := Arr.start ev_tD hN18
  obtain ⟨sL, ev_sL⟩ := exa_v hN20
  have F_word_wL := Fld.start ((fld_at ev_wL).symm.trans ev_sL)
  have E_sL := Exa.start ev_sL hN20
  obtain ⟨tL, ev_tL⟩ := arr_v hN22
  have F_value_sL := Fld.start ((fld_at ev_sL).symm.trans ev_tL)
  obtain ⟨cl_tL, Ar_tL⟩ := Arr.start ev_tL hN22
  obtain ⟨sN, ev_sN⟩ := exa_v hN34
  have F_word_wN := Fld.start ((fld_at ev_wN).symm.trans ev_sN)
  have E_sN := Exa.start ev_sN hN34
  obtain ⟨tN, ev_tN⟩ := arr_v hN36
  have F_value_sN := Fld.start ((fld_at ev_sN).symm.trans ev_tN)
  obtain ⟨cl_tN, Ar_tN⟩ := Arr.start ev_tN hN36
  have Ln_wV := own_len ev_wV Ar_wV hN4
  have El_wV_0 := own_el ev_wV Ar_wV (own_eqr ev_wA hN5)
  have El_wV_1 := own_el ev_wV Ar_wV (own_eqr ev_wD hN7)
  have El_wV_2 := own_el ev_wV Ar_wV (own_eqr ev_wL hN9)
  have El_wV_3 := own_el ev_wV Ar_wV (own_eqr ev_wN hN11)
  have F_coder_sA := Fld.start ((fld_at ev_sA).symm.trans (eqv_i (y := 0) rfl hN13))
  have Ln_tA := own_len ev_tA Ar_tA hN15
  have F_coder_sD := Fld.start ((fld_at ev_sD).symm.trans (eqv_i (y := 0) rfl hN17))
  have Ln_tD := own_len ev_tD Ar_tD hN19
  have F_coder_sL := Fld.start ((fld_at ev_sL).symm.trans (eqv_i (y := 0) rfl hN21))
  have Ln_tL := own_len ev_tL Ar_tL hN23
  have El_tL_0 := own_el ev_tL Ar_tL (eqv_i (y := 97) rfl hN24)
  have El_tL_1 := own_el ev_tL Ar_tL (eqv_i (y := 108) rfl hN25)
  have El_tL_2 := own_el ev_tL Ar_tL (eqv_i (y := 108) rfl hN26)
  have El_tD_0 := own_el ev_tD Ar_tD (eqv_i (y := 100) rfl hN29)
  have El_tD_1 := own_el ev_tD Ar_tD (eqv_i (y := 101) rfl hN30)
  have El_tD_2 := own_el ev_tD Ar_tD (eqv_i (y := 110) rfl hN31)
  have El_tD_3 := own_el ev_tD Ar_tD (eqv_i (y := 121) rfl hN32)
  have F_coder_sN := Fld.start ((fld_at ev_sN).symm.trans (eqv_i (y := 0) rfl hN35))
  have Ln_tN := own_len ev_tN Ar_tN hN37
  have El_tN_0 := own_el ev_tN Ar_tN (eqv_i (y := 110) rfl hN38)
  have El_tN_1 := own_el ev_tN Ar_tN (eqv_i (y := 111) rfl hN39)
  have El_tN_2 := own_el ev_tN Ar_tN (eqv_i (y := 110) rfl hN40)
  have El_tN_3 := own_el ev_tN Ar_tN (eqv_i (y := 101) rfl hN41)
  have El_tA_0 := own_el ev_tA Ar_tA (eqv_i (y := 97) rfl hN45)
  have El_tA_1 := own_el ev_tA Ar_tA (eqv_i (y := 108) rfl hN46)
  have El_tA_2 := own_el ev_tA Ar_tA (eqv_i (y := 108) rfl hN47)
  have El_tA_3 := own_el ev_tA Ar_tA (eqv_i (y := 111) rfl hN48)
  have El_tA_4 := own_el ev_tA Ar_tA (eqv_i (y := 119) rfl hN48')
  have V_wV : Arv s s.heap wV cl_wV.cls (.object "com/example/rolegraph/rolegraph/ColumnRule$Kind") (4 : Int32) [(.ref wA), (.ref wD), (.ref wL), (.ref wN)] .null := Arv.start hfit Ar_wV Ln_wV.1 Ln_wV.2 (by decide) rfl ⟨El_wV_0, El_wV_1, El_wV_2, El_wV_3, trivial⟩
  have V_tA : Arv s s.heap tA cl_tA.cls .byte (5 : Int32) [(.int (97 : Int32)), (.int (108 : Int32)), (.int (108 : Int32)), (.int (111 : Int32)), (.int (119 : Int32))] (.int 0) := Arv.start hfit Ar_tA Ln_tA.1 Ln_tA.2 (by decide) rfl ⟨El_tA_0, El_tA_1, El_tA_2, El_tA_3, El_tA_4, trivial⟩
  have V_tD : Arv s s.heap tD cl_tD.cls .byte (4 : Int32) [(.int (100 : Int32)), (.int (101 : Int32)), (.int (110 : Int32)), (.int (121 : Int32))] (.int 0) := Arv.start hfit Ar_tD Ln_tD.1 Ln_tD.2 (by decide) rfl ⟨El_tD_0, El_tD_1, El_tD_2, El_tD_3, trivial⟩
  have V_tL : Arv s s.heap tL cl_tL.cls .byte (3 : Int32) [(.int (97 : Int32)), (.int (108 : Int32)), (.int (108 : Int32))] (.int 0) := Arv.start hfit Ar_tL Ln_tL.1 Ln_tL.2 (by decide) rfl ⟨El_tL_0, El_tL_1, El_tL_2, trivial⟩
  have V_tN : Arv s s.heap tN cl_tN.cls .byte (4 : Int32) [(.int (110 : Int32)), (.int (111 : Int32)), (.int (110 : Int32)), (.int (101 : Int32))] (.int 0) := Arv.start hfit Ar_tN Ln_tN.1 Ln_tN.2 (by decide) rfl ⟨El_tN_0, El_tN_1, El_tN_2, El_tN_3, trivial⟩
  obtain ⟨zC, ev_zC⟩ := is_v (Cond.before_iff.mp (hsets _ (List.mem_of_getElem? (i := 1) rfl)))
  have S_String_COMPACT_STRINGS := Sta.start ev_zC (Or.inl (hsets _ (List.mem_of_getElem? (i := 0) rfl)))
  have hzC := gotF (Cond.eq_ints ev_zC rfl) (not_v (Cond.before_iff.mp (hsets _ (List.mem_of_getElem? (i := 2) rfl))))
  obtain ⟨fm, ev_fm, hfm⟩ := isR_v (Cond.before_iff.mp (hsets _ (List.mem_of_getElem? (i := 8) rfl)))
  have S_Preconditions_SIOOBE_FORMATTER := Sta.start ev_fm (Or.inl (hsets _ (List.mem_of_getElem? (i := 7) rfl)))
  have Sx_sA := (⟨tA, _, _, _, E_sA, F_value_sA, F_coder_sA, V_tA, Or.inl ⟨rfl, rfl, rfl, by decide⟩, by decide, by decide⟩ : own_Str s s.heap sA [(97 : Int32), (108 : Int32), (108 : Int32), (111 : Int32), (119 : Int32)])
  have Sx_sD := (⟨tD, _, _, _, E_sD, F_value_sD, F_coder_sD, V_tD, Or.inl ⟨rfl, rfl, rfl, by decide⟩, by decide, by decide⟩ : own_Str s s.heap sD [(100 : Int32), (101 : Int32), (110 : Int32), (121 : Int32)])
  have Sx_sL := (⟨tL, _, _, _, E_sL, F_value_sL, F_coder_sL, V_tL, Or.inl ⟨rfl, rfl, rfl, by decide⟩, by decide, by decide⟩ : own_Str s s.heap sL [(97 : Int32), (108 : Int32), (108 : Int32)])
  have Sx_sN := (⟨tN, _, _, _, E_sN, F_value_sN, F_coder_sN, V_tN, Or.inl ⟨rfl, rfl, rfl, by decide⟩, by decide, by decide⟩ : own_Str s s.heap sN [(110 : Int32), (111 : Int32), (110 : Int32), (101 : Int32)])
  obtain ⟨n, o, h1, h2, h3, _, L, rfl, ⟨rfl, N⟩, hq⟩ := rm0 l s _ hw tables_1 wA wV wD wL wN sA tA sD tD sL tL sN tN cl_wV.cls cl_tA.cls cl_tD.cls cl_tL.cls cl_tN.cls zC fm ⟨S_ColumnRule_Kind_ALLOW, E_wA, S_ColumnRule_Kind_VALUES, E_wV, S_ColumnRule_Kind_DENY, E_wD, S_ColumnRule_Kind_ALL, E_wL, S_ColumnRule_Kind_NONE, E_wN, F_word_wA, E_sA, F_value_sA, F_word_wD, E_sD, F_value_sD, F_word_wL, E_sL, F_value_sL, F_word_wN, E_sN, F_value_sN, F_coder_sA, F_coder_sD, F_coder_sL, F_coder_sN, V_wV, V_tA, V_tD, V_tL, V_tN, S_String_COMPACT_STRINGS, hzC, S_Preconditions_SIOOBE_FORMATTER, hfm, Sx_sA, Sx_sD, Sx_sL, Sx_sN, trivial⟩ i0 i1 s.heap s.heap.size (Nat.le_refl _) (Old.start s)  p e ha hc hk s m _ below hf ((Spec.applies_iff_loose hf).mp happ).1 ⟨rfl, State.Warmed39.refl s, rfl⟩ trivial
  refine ⟨n, _, h1, h2, h3, hpost _ _ _ _ _ _ ⟨Cond.after_iff.mpr rfl, Cond.after_iff.mpr (eq_i res_at (Term.int_eval (1)) rfl), trivial⟩ ⟨hq.1, hq.2.1, (hq.2.2.sift fun y hy => Or.inr (N y hy)).mono (by decide) (by decide)⟩⟩
theorem main_1_1 : Claimed_1_1 := comes_1 fun _ _ _ _ _ _ h hF => ⟨h.1, hF⟩
theorem main_1_2 : Claimed_1_2 := comes_1 fun _ _ _ _ _ _ h hF => ⟨h.2.1, hF⟩
end Jvm.Pilot.@@N@@
namespace Jvm.Pilot.@@N@@
open Jvm Jvm.ClassFile Sem Op Lib Jvm.Free Jvm.Stand Jvm.Pilot.@@N@@.Jvm.D
/-! MADE BY PROGRAM (witnessworld.py) out of the Statement's table words and the real class files: 22 classes; the members and pool entries that the words name. The judged class is class 1, her method 1. -/
namespace start1
open Jvm.ClassFile
def u (s : String) : CpInfo := .utf8 (stringToUtf16 s)
/-- a pool by its gaps: so many unusable entries, then the entry; so many at the end -/
def gap : Nat → List CpInfo → List CpInfo
  | 0, r => r
  | n + 1, r => .unusable :: gap n r
def poolList (es : List (Nat × CpInfo)) (last : Nat) : List CpInfo := es.foldr (fun e r => gap e.1 (e.2 :: r)) (gap last [])
def pool (es : List (Nat × CpInfo)) (last : Nat) : Array CpInfo := ⟨poolList es last⟩
def fileOf (pool : Array CpInfo) (this : Nat) (attrs : Array Attribute := #[]) (ms : Array MethodInfo := #[]) (fl : Nat := 33) (sup : Nat := 0) (ifs : Array Nat := #[]) (fds : Array FieldInfo := #[]) : ClassFile where
  minorVersion := 0
  majorVersion := 65
  constantPool := pool
  accessFlags := fl
  thisClass := this
  superClass := sup
  interfaces := ifs
  fields := fds
  methods := ms
  attributes := attrs
def plain (name : String) (sup : Option ClassId) : Class where
  name := name
  kind := .ordinary
  loader := none
  accessFlags := 33
  super := sup
  interfaces := #[]
  cf := none
  fields := #[]
  methods := #[]
  instanceTypes := #[]
  staticTypes := #[]
  resolved := #[]
  callSites := []
  init := .initialized
  statics := none
  mirror := none

def pool0 : Array CpInfo := pool [(5, u "<init>"), (0, u "()V"), (1, .class_ 10), (1, u "java/lang/Object"), (85, u "clone"), (0, u "()Ljava/lang/Object;")] 26

def k0c0 : Code := { maxStack := 0, maxLocals := 1, code := object_method_1_code, exceptionTable := #[], attributes := #[] }
def k0m0 : Method := { name := "<init>", desc := "()V", sig := { parameters := [], returnType := none }, accessFlags := 1, code := some k0c0 }
def k0m1 : Method := { name := "clone", desc := "()Ljava/lang/Object;", sig := { parameters := [], returnType := some (.object "java/lang/Object") }, accessFlags := 260, code := none }
/-- java/lang/Object -/
def k0 : Class := { plain "java/lang/Object" none with
  accessFlags := 33
  interfaces := #[]
  cf := some (fileOf pool0 8 #[] #[{ accessFlags := 1, nameIndex := 5, descriptorIndex := 6, attributes := #[] }, { accessFlags := 260, nameIndex := 96, descriptorIndex := 97, attributes := #[] }] 33 0 #[] #[])
  fields := #[]
  methods := #[k0m0, k0m1]
  instanceTypes := #[]
  staticTypes := #[]
  resolved := Array.replicate 124 none
  statics := none }

def pool1 : Array CpInfo := pool [(2, .class_ 4), (1, u "java/lang/Object"), (0, u "<init>"), (0, u "()V"), (0, .fieldref 8 9), (0, .class_ 10), (0, .nameAndType 11 12), (0, u "com/example/rolegraph/rolegraph/ColumnRule$Kind"), (0, u "ALLOW"), (0, u "Lcom/example/rolegraph/rolegraph/ColumnRule$Kind;"), (0, .fieldref 8 14), (0, .nameAndType 15 12), (0, u "DENY"), (0, .fieldref 8 17), (0, .nameAndType 18 12), (0, u "ALL"), (0, .fieldref 8 20), (0, .nameAndType 21 12), (0, u "NONE"), (0, .class_ 23), (0, u "java/lang/String"), (0, .methodref 22 25), (0, .nameAndType 5 26), (0, u "([C)V"), (0, .methodref 8 28), (0, .nameAndType 29 30), (0, u "of"), (0, u "(Ljava/lang/String;)Lcom/example/rolegraph/rolegraph/ColumnRule$Kind;"), (0, .fieldref 8 32), (0, .nameAndType 33 34), (0, u "word"), (0, u "Ljava/lang/String;"), (0, .class_ 36), (0, u "com/example/rolegraph/rolegraph/KindOfPinLaw"), (2, u "law"), (0, u "(II)Z")] 9

def k1m0 : Method := { name := "<init>", desc := "()V", sig := { parameters := [], returnType := none }, accessFlags := 1, code := none }
def k1c1 : Code := { maxStack := 4, maxLocals := 8, code := code, exceptionTable := #[], attributes := #[] }
def k1m1 : Method := { name := "law", desc := "(II)Z", sig := { parameters := [.int, .int], returnType := some .boolean }, accessFlags := 9, code := some k1c1 }
/-- com/example/rolegraph/rolegraph/KindOfPinLaw -/
def k1 : Class := { plain "com/example/rolegraph/rolegraph/KindOfPinLaw" (some 0) with
  accessFlags := 49
  interfaces := #[]
  cf := some (fileOf pool1 35 #[] #[{ accessFlags := 1, nameIndex := 5, descriptorIndex := 6, attributes := #[] }, { accessFlags := 9, nameIndex := 39, descriptorIndex := 40, attributes := #[] }] 49 2 #[] #[])
  fields := #[]
  methods := #[k1m0, k1m1]
  instanceTypes := #[]
  staticTypes := #[]
  resolved := Array.replicate 50 none
  statics := none }

def pool2 : Array CpInfo := pool [(1, .class_ 2), (0, u "java/lang/constant/Constable"), (0, .class_ 4), (0, u "java/lang/Object")] 6

/-- java/lang/constant/Constable -/
def k2 : Class := { plain "java/lang/constant/Constable" (some 0) with
  accessFlags := 1537
  interfaces := #[]
  cf := some (fileOf pool2 1 #[] #[] 1537 3 #[] #[])
  fields := #[]
  methods := #[]
  instanceTypes := #[]
  staticTypes := #[]
  resolved := Array.replicate 11 none
  statics := none }

def pool3 : Array CpInfo := pool [(1, .class_ 2), (0, u "java/lang/Comparable"), (0, .class_ 4), (0, u "java/lang/Object")] 7

/-- java/lang/Comparable -/
def k3 : Class := { plain "java/lang/Comparable" (some 0) with
  accessFlags := 1537
  interfaces := #[]
  cf := some (fileOf pool3 1 #[] #[] 1537 3 #[] #[])
  fields := #[]
  methods := #[]
  instanceTypes := #[]
  staticTypes := #[]
  resolved := Array.replicate 12 none
  statics := none }

def pool4 : Array CpInfo := pool [(1, .class_ 2), (0, u "java/io/Serializable"), (0, .class_ 4), (0, u "java/lang/Object")] 2

/-- java/io/Serializable -/
def k4 : Class := { plain "java/io/Serializable" (some 0) with
  accessFlags := 1537
  interfaces := #[]
  cf := some (fileOf pool4 1 #[] #[] 1537 3 #[] #[])
  fields := #[]
  methods := #[]
  instanceTypes := #[]
  staticTypes := #[]
  resolved := Array.replicate 7 none
  statics := none }

def pool5 : Array CpInfo := pool [(2, .class_ 4), (1, u "java/lang/Enum"), (0, u "name"), (0, u "Ljava/lang/String;"), (2, u "ordinal"), (0, u "I"), (1, .class_ 14), (1, u "java/lang/Object"), (4, u "hash"), (86, .class_ 108), (1, u "java/lang/Enum$EnumDesc"), (2, .class_ 112), (0, u "java/lang/constant/Constable"), (0, .class_ 114), (0, u "java/lang/Comparable"), (0, .class_ 116), (0, u "java/io/Serializable")] 87

/-- java/lang/Enum -/
def k5 : Class := { plain "java/lang/Enum" (some 0) with
  accessFlags := 1057
  interfaces := #[2, 3, 4]
  cf := some (fileOf pool5 2 #[.nestMembers #[106]] #[] 1057 12 #[111, 113, 115] #[{ accessFlags := 18, nameIndex := 5, descriptorIndex := 6, attributes := #[] }, { accessFlags := 18, nameIndex := 9, descriptorIndex := 10, attributes := #[] }, { accessFlags := 2, nameIndex := 19, descriptorIndex := 10, attributes := #[] }])
  fields := #[{ name := "name", type := (.object "java/lang/String"), accessFlags := 18, slot := 0, constantValue := 0 }, { name := "ordinal", type := .int, accessFlags := 18, slot := 1, constantValue := 0 }, { name := "hash", type := .int, accessFlags := 2, slot := 2, constantValue := 0 }]
  methods := #[]
  instanceTypes := #[(.object "java/lang/String"), .int, .int]
  staticTypes := #[]
  resolved := Array.replicate 204 none
  statics := none }

def pool6 : Array CpInfo := pool [(1, .class_ 2), (0, u "com/example/rolegraph/rolegraph/ColumnRule$Kind"), (2, u "ALLOW"), (0, u "Lcom/example/rolegraph/rolegraph/ColumnRule$Kind;"), (2, u "DENY"), (2, u "ALL"), (2, u "NONE"), (0, .fieldref 1 17), (0, .nameAndType 18 19), (0, u "$VALUES"), (0, u "[Lcom/example/rolegraph/rolegraph/ColumnRule$Kind;"), (0, .methodref 21 22), (0, .class_ 19), (0, .nameAndType 23 24), (0, u "clone"), (0, u "()Ljava/lang/Object;"), (1, .class_ 28), (1, u "java/lang/Enum"), (17, .class_ 48), (1, u "java/lang/String"), (2, .fieldref 1 52), (0, .nameAndType 53 54), (0, u "word"), (0, u "Ljava/lang/String;"), (5, .methodref 1 61), (0, .nameAndType 62 63), (0, u "values"), (0, u "()[Lcom/example/rolegraph/rolegraph/ColumnRule$Kind;"), (5, u "(Ljava/lang/Object;)Z"), (6, .methodref 46 77), (0, .nameAndType 78 69), (0, u "equals"), (19, u "(Ljava/lang/String;)Lcom/example/rolegraph/rolegraph/ColumnRule$Kind;"), (6, u "of"), (5, .class_ 112), (0, u "com/example/rolegraph/rolegraph/ColumnRule")] 16

def k6c0 : Code := { maxStack := 1, maxLocals := 0, code := prog_4_method_1_code, exceptionTable := #[], attributes := #[] }
def k6m0 : Method := { name := "values", desc := "()[Lcom/example/rolegraph/rolegraph/ColumnRule$Kind;", sig := { parameters := [], returnType := some (.array (.object "com/example/rolegraph/rolegraph/ColumnRule$Kind")) }, accessFlags := 9, code := some k6c0 }
def k6c1 : Code := { maxStack := 3, maxLocals := 5, code := prog_4_method_6_code, exceptionTable := #[], attributes := #[] }
def k6m1 : Method := { name := "of", desc := "(Ljava/lang/String;)Lcom/example/rolegraph/rolegraph/ColumnRule$Kind;", sig := { parameters := [(.object "java/lang/String")], returnType := some (.object "com/example/rolegraph/rolegraph/ColumnRule$Kind") }, accessFlags := 8, code := some k6c1 }
/-- com/example/rolegraph/rolegraph/ColumnRule$Kind -/
def k6 : Class := { plain "com/example/rolegraph/rolegraph/ColumnRule$Kind" (some 5) with
  accessFlags := 16432
  interfaces := #[]
  cf := some (fileOf pool6 1 #[.nestHost 111] #[{ accessFlags := 9, nameIndex := 62, descriptorIndex := 63, attributes := #[] }, { accessFlags := 8, nameIndex := 105, descriptorIndex := 98, attributes := #[] }] 16432 26 #[] #[{ accessFlags := 16409, nameIndex := 5, descriptorIndex := 6, attributes := #[] }, { accessFlags := 16409, nameIndex := 9, descriptorIndex := 6, attributes := #[] }, { accessFlags := 16409, nameIndex := 12, descriptorIndex := 6, attributes := #[] }, { accessFlags := 16409, nameIndex := 15, descriptorIndex := 6, attributes := #[] }, { accessFlags := 16, nameIndex := 53, descriptorIndex := 54, attributes := #[] }, { accessFlags := 4122, nameIndex := 18, descriptorIndex := 19, attributes := #[] }])
  fields := #[{ name := "ALLOW", type := (.object "com/example/rolegraph/rolegraph/ColumnRule$Kind"), accessFlags := 16409, slot := 0, constantValue := 0 }, { name := "DENY", type := (.object "com/example/rolegraph/rolegraph/ColumnRule$Kind"), accessFlags := 16409, slot := 1, constantValue := 0 }, { name := "ALL", type := (.object "com/example/rolegraph/rolegraph/ColumnRule$Kind"), accessFlags := 16409, slot := 2, constantValue := 0 }, { name := "NONE", type := (.object "com/example/rolegraph/rolegraph/ColumnRule$Kind"), accessFlags := 16409, slot := 3, constantValue := 0 }, { name := "word", type := (.object "java/lang/String"), accessFlags := 16, slot := 3, constantValue := 0 }, { name := "$VALUES", type := (.array (.object "com/example/rolegraph/rolegraph/ColumnRule$Kind")), accessFlags := 4122, slot := 4, constantValue := 0 }]
  methods := #[k6m0, k6m1]
  instanceTypes := #[(.object "java/lang/String"), .int, .int, (.object "java/lang/String")]
  staticTypes := #[(.object "com/example/rolegraph/rolegraph/ColumnRule$Kind"), (.object "com/example/rolegraph/rolegraph/ColumnRule$Kind"), (.object "com/example/rolegraph/rolegraph/ColumnRule$Kind"), (.object "com/example/rolegraph/rolegraph/ColumnRule$Kind"), (.array (.object "com/example/rolegraph/rolegraph/ColumnRule$Kind"))]
  resolved := Array.replicate 129 none
  statics := some 0 }

def pool7 : Array CpInfo := pool [(2, .class_ 4), (1, u "java/lang/CharSequence"), (42, .class_ 48), (0, u "java/lang/CharSequence$1CodePointIterator"), (10, .class_ 60), (0, u "java/lang/CharSequence$1CharIterator"), (5, .class_ 67), (0, u "java/lang/Object")] 63

/-- java/lang/CharSequence -/
def k7 : Class := { plain "java/lang/CharSequence" (some 0) with
  accessFlags := 1537
  interfaces := #[]
  cf := some (fileOf pool7 2 #[.nestMembers #[47, 59]] #[] 1537 66 #[] #[])
  fields := #[]
  methods := #[]
  instanceTypes := #[]
  staticTypes := #[]
  resolved := Array.replicate 131 none
  statics := none }

def pool8 : Array CpInfo := pool [(1, .class_ 2), (0, u "java/lang/constant/ConstantDesc"), (0, .class_ 4), (0, u "java/lang/Object")] 32

/-- java/lang/constant/ConstantDesc -/
def k8 : Class := { plain "java/lang/constant/ConstantDesc" (some 0) with
  accessFlags := 1537
  interfaces := #[]
  cf := some (fileOf pool8 1 #[] #[] 1537 3 #[] #[])
  fields := #[]
  methods := #[]
  instanceTypes := #[]
  staticTypes := #[]
  resolved := Array.replicate 37 none
  statics := none }

def pool9 : Array CpInfo := pool [(1, .methodref 2 3), (0, .class_ 4), (0, .nameAndType 5 6), (0, u "java/lang/Object"), (0, u "<init>"), (0, u "()V"), (2, .fieldref 10 11), (0, .class_ 12), (0, .nameAndType 13 14), (0, u "java/lang/String"), (0, u "value"), (0, u "[B"), (0, .fieldref 10 16), (0, .nameAndType 17 18), (0, u "coder"), (0, u "B"), (2, u "hash"), (0, u "I"), (2, u "hashIsZero"), (0, u "Z"), (0, .methodref 10 28), (0, .nameAndType 5 29), (0, u "([CIILjava/lang/Void;)V"), (8, .fieldref 10 39), (0, .nameAndType 40 26), (0, u "COMPACT_STRINGS"), (1, .class_ 44), (1, u "java/lang/StringUTF16"), (0, u "compress"), (1, .methodref 42 48), (0, .nameAndType 49 50), (0, u "coderFromArrayLen"), (0, u "([BI)B"), (56, .class_ 109), (1, u "java/lang/StringLatin1"), (67, .methodref 42 178), (0, .nameAndType 45 179), (0, u "([CII)[B"), (361, .methodref 107 542), (0, .nameAndType 543 544), (0, u "equals"), (0, u "([B[B)Z"), (28, u "(Ljava/lang/Object;)Z"), (1, .class_ 576), (0, u "java/lang/CharSequence"), (22, u "CASE_INSENSITIVE_ORDER"), (0, u "Ljava/util/Comparator;"), (409, u "([C)V"), (90, u "serialPersistentFields"), (0, u "[Ljava/io/ObjectStreamField;"), (0, .class_ 1104), (0, u "java/lang/String$CaseInsensitiveComparator"), (1, .class_ 1107), (0, u "java/io/Serializable"), (0, .class_ 1109), (0, u "java/lang/Comparable"), (0, .class_ 1111), (0, u "java/lang/constant/Constable"), (0, .class_ 1113), (0, u "java/lang/constant/ConstantDesc"), (2, u "serialVersionUID"), (0, u "J"), (3, u "REPL"), (0, u "C"), (2, u "LATIN1"), (1, u "UTF16")] 323

def k9m0 : Method := { name := "<init>", desc := "()V", sig := { parameters := [], returnType := none }, accessFlags := 1, code := none }
def k9c1 : Code := { maxStack := 5, maxLocals := 2, code := jdk_42_method_3_code, exceptionTable := #[], attributes := #[] }
def k9m1 : Method := { name := "<init>", desc := "([C)V", sig := { parameters := [(.array .char)], returnType := none }, accessFlags := 1, code := some k9c1 }
def k9c2 : Code := { maxStack := 2, maxLocals := 3, code := jdk_42_method_66_code, exceptionTable := #[], attributes := #[] }
def k9m2 : Method := { name := "equals", desc := "(Ljava/lang/Object;)Z", sig := { parameters := [(.object "java/lang/Object")], returnType := some .boolean }, accessFlags := 1, code := some k9c2 }
def k9c3 : Code := { maxStack := 4, maxLocals := 6, code := jdk_42_method_149_code, exceptionTable := #[], attributes := #[] }
def k9m3 : Method := { name := "<init>", desc := "([CIILjava/lang/Void;)V", sig := { parameters := [(.array .char), .int, .int, (.object "java/lang/Void")], returnType := none }, accessFlags := 2, code := some k9c3 }
/-- java/lang/String -/
def k9 : Class := { plain "java/lang/String" (some 0) with
  accessFlags := 49
  interfaces := #[4, 3, 7, 2, 8]
  cf := some (fileOf pool9 10 #[.nestMembers #[1103]] #[{ accessFlags := 1, nameIndex := 5, descriptorIndex := 6, attributes := #[] }, { accessFlags := 1, nameIndex := 5, descriptorIndex := 1010, attributes := #[] }, { accessFlags := 1, nameIndex := 543, descriptorIndex := 573, attributes := #[] }, { accessFlags := 2, nameIndex := 5, descriptorIndex := 29, attributes := #[] }] 49 2 #[1106, 1108, 575, 1110, 1112] #[{ accessFlags := 18, nameIndex := 13, descriptorIndex := 14, attributes := #[] }, { accessFlags := 18, nameIndex := 17, descriptorIndex := 18, attributes := #[] }, { accessFlags := 2, nameIndex := 21, descriptorIndex := 22, attributes := #[] }, { accessFlags := 2, nameIndex := 25, descriptorIndex := 26, attributes := #[] }, { accessFlags := 26, nameIndex := 1116, descriptorIndex := 1117, attributes := #[] }, { accessFlags := 24, nameIndex := 40, descriptorIndex := 26, attributes := #[] }, { accessFlags := 26, nameIndex := 1101, descriptorIndex := 1102, attributes := #[] }, { accessFlags := 26, nameIndex := 1121, descriptorIndex := 1122, attributes := #[] }, { accessFlags := 25, nameIndex := 599, descriptorIndex := 600, attributes := #[] }, { accessFlags := 24, nameIndex := 1125, descriptorIndex := 18, attributes := #[] }, { accessFlags := 24, nameIndex := 1127, descriptorIndex := 18, attributes := #[] }])
  fields := #[{ name := "value", type := (.array .byte), accessFlags := 18, slot := 0, constantValue := 0 }, { name := "coder", type := .byte, accessFlags := 18, slot := 1, constantValue := 0 }, { name := "hash", type := .int, accessFlags := 2, slot := 2, constantValue := 0 }, { name := "hashIsZero", type := .boolean, accessFlags := 2, slot := 3, constantValue := 0 }, { name := "serialVersionUID", type := .long, accessFlags := 26, slot := 0, constantValue := 0 }, { name := "COMPACT_STRINGS", type := .boolean, accessFlags := 24, slot := 1, constantValue := 0 }, { name := "serialPersistentFields", type := (.array (.object "java/io/ObjectStreamField")), accessFlags := 26, slot := 2, constantValue := 0 }, { name := "REPL", type := .char, accessFlags := 26, slot := 3, constantValue := 0 }, { name := "CASE_INSENSITIVE_ORDER", type := (.object "java/util/Comparator"), accessFlags := 25, slot := 4, constantValue := 0 }, { name := "LATIN1", type := .byte, accessFlags := 24, slot := 5, constantValue := 0 }, { name := "UTF16", type := .byte, accessFlags := 24, slot := 6, constantValue := 0 }]
  methods := #[k9m0, k9m1, k9m2, k9m3]
  instanceTypes := #[(.array .byte), .byte, .int, .boolean]
  staticTypes := #[.long, .boolean, (.array (.object "java/io/ObjectStreamField")), .char, (.object "java/util/Comparator"), .byte, .byte]
  resolved := Array.replicate 1451 none
  statics := some 1 }

def pool10 : Array CpInfo := pool [(6, .class_ 8), (1, u "java/lang/Object"), (0, u "<init>"), (0, u "()V"), (1, .class_ 14), (1, u "java/lang/StringUTF16"), (31, u "$assertionsDisabled"), (0, u "Z"), (13, u "HI_BYTE_SHIFT"), (0, u "I"), (2, u "LO_BYTE_SHIFT"), (49, .methodref 12 116), (0, .nameAndType 117 118), (0, u "compress"), (0, u "([CI[BII)I"), (3, u "([CII)[B"), (138, u "coderFromArrayLen"), (0, u "([BI)B"), (106, .class_ 371), (1, u "java/lang/StringUTF16$LinesSpliterator"), (58, u "MAX_LENGTH"), (196, .class_ 628), (0, u "java/lang/StringUTF16$CodePointsSpliterator"), (0, .class_ 630), (0, u "java/lang/StringUTF16$CharsSpliterator")] 4

def k10m0 : Method := { name := "<init>", desc := "()V", sig := { parameters := [], returnType := none }, accessFlags := 0, code := none }
def k10c1 : Code := { maxStack := 2, maxLocals := 2, code := jdk_52_method_15_code, exceptionTable := #[], attributes := #[] }
def k10m1 : Method := { name := "coderFromArrayLen", desc := "([BI)B", sig := { parameters := [(.array .byte), .int], returnType := some .byte }, accessFlags := 8, code := some k10c1 }
def k10c2 : Code := { maxStack := 5, maxLocals := 6, code := jdk_52_method_16_code, exceptionTable := #[], attributes := #[] }
def k10m2 : Method := { name := "compress", desc := "([CII)[B", sig := { parameters := [(.array .char), .int, .int], returnType := some (.array .byte) }, accessFlags := 9, code := some k10c2 }
def k10c3 : Code := { maxStack := 3, maxLocals := 7, code := jdk_52_method_21_code, exceptionTable := #[], attributes := #[] }
def k10m3 : Method := { name := "compress", desc := "([CI[BII)I", sig := { parameters := [(.array .char), .int, (.array .byte), .int, .int], returnType := some .int }, accessFlags := 9, code := some k10c3 }
/-- java/lang/StringUTF16 -/
def k10 : Class := { plain "java/lang/StringUTF16" (some 0) with
  accessFlags := 48
  interfaces := #[]
  cf := some (fileOf pool10 12 #[.nestMembers #[627, 629, 369]] #[{ accessFlags := 0, nameIndex := 9, descriptorIndex := 10, attributes := #[] }, { accessFlags := 8, nameIndex := 261, descriptorIndex := 262, attributes := #[] }, { accessFlags := 9, nameIndex := 117, descriptorIndex := 122, attributes := #[] }, { accessFlags := 9, nameIndex := 117, descriptorIndex := 118, attributes := #[] }] 48 6 #[] #[{ accessFlags := 26, nameIndex := 61, descriptorIndex := 62, attributes := #[] }, { accessFlags := 26, nameIndex := 65, descriptorIndex := 62, attributes := #[] }, { accessFlags := 24, nameIndex := 430, descriptorIndex := 62, attributes := #[] }, { accessFlags := 4120, nameIndex := 46, descriptorIndex := 47, attributes := #[] }])
  fields := #[{ name := "HI_BYTE_SHIFT", type := .int, accessFlags := 26, slot := 0, constantValue := 0 }, { name := "LO_BYTE_SHIFT", type := .int, accessFlags := 26, slot := 1, constantValue := 0 }, { name := "MAX_LENGTH", type := .int, accessFlags := 24, slot := 2, constantValue := 0 }, { name := "$assertionsDisabled", type := .boolean, accessFlags := 4120, slot := 3, constantValue := 0 }]
  methods := #[k10m0, k10m1, k10m2, k10m3]
  instanceTypes := #[]
  staticTypes := #[.int, .int, .int, .boolean]
  resolved := Array.replicate 635 none
  statics := none }

def pool11 : Array CpInfo := pool [(1, .class_ 2), (0, u "java/lang/Cloneable"), (0, .class_ 4), (0, u "java/lang/Object")] 2

/-- java/lang/Cloneable -/
def k11 : Class := { plain "java/lang/Cloneable" (some 0) with
  accessFlags := 1537
  interfaces := #[]
  cf := some (fileOf pool11 1 #[] #[] 1537 3 #[] #[])
  fields := #[]
  methods := #[]
  instanceTypes := #[]
  staticTypes := #[]
  resolved := Array.replicate 7 none
  statics := none }

def pool12 : Array CpInfo := pool [(4, .class_ 6), (1, u "java/lang/Object"), (0, u "<init>"), (0, u "()V"), (5, .class_ 16), (1, u "java/lang/StringLatin1"), (104, u "$assertionsDisabled"), (0, u "Z"), (98, .class_ 223), (1, u "java/lang/StringLatin1$LinesSpliterator"), (57, u "equals"), (0, u "([B[B)Z"), (107, .class_ 391), (0, u "java/lang/StringLatin1$CharsSpliterator")] 3

def k12m0 : Method := { name := "<init>", desc := "()V", sig := { parameters := [], returnType := none }, accessFlags := 0, code := none }
def k12c1 : Code := { maxStack := 3, maxLocals := 3, code := jdk_43_method_13_code, exceptionTable := #[], attributes := #[] }
def k12m1 : Method := { name := "equals", desc := "([B[B)Z", sig := { parameters := [(.array .byte), (.array .byte)], returnType := some .boolean }, accessFlags := 9, code := some k12c1 }
/-- java/lang/StringLatin1 -/
def k12 : Class := { plain "java/lang/StringLatin1" (some 0) with
  accessFlags := 48
  interfaces := #[]
  cf := some (fileOf pool12 14 #[.nestMembers #[390, 221]] #[{ accessFlags := 0, nameIndex := 7, descriptorIndex := 8, attributes := #[] }, { accessFlags := 9, nameIndex := 281, descriptorIndex := 282, attributes := #[] }] 48 4 #[] #[{ accessFlags := 4120, nameIndex := 121, descriptorIndex := 122, attributes := #[] }])
  fields := #[{ name := "$assertionsDisabled", type := .boolean, accessFlags := 4120, slot := 0, constantValue := 0 }]
  methods := #[k12m0, k12m1]
  instanceTypes := #[]
  staticTypes := #[.boolean]
  resolved := Array.replicate 395 none
  statics := none }

def pool13 : Array CpInfo := pool [(2, .class_ 4), (1, u "java/lang/Object"), (0, u "<init>"), (0, u "()V"), (17, .class_ 26), (1, u "jdk/internal/util/Preconditions"), (28, .class_ 56), (0, u "jdk/internal/util/Preconditions$4"), (57, .class_ 115), (0, u "jdk/internal/util/Preconditions$1"), (7, u "SIOOBE_FORMATTER"), (0, u "Ljava/util/function/BiFunction;"), (0, .class_ 126), (0, u "jdk/internal/util/Preconditions$2"), (3, u "AIOOBE_FORMATTER"), (0, .class_ 132), (0, u "jdk/internal/util/Preconditions$3"), (3, u "IOOBE_FORMATTER")] 57

def k13m0 : Method := { name := "<init>", desc := "()V", sig := { parameters := [], returnType := none }, accessFlags := 1, code := none }
/-- jdk/internal/util/Preconditions -/
def k13 : Class := { plain "jdk/internal/util/Preconditions" (some 0) with
  accessFlags := 33
  interfaces := #[]
  cf := some (fileOf pool13 24 #[.nestMembers #[55, 131, 125, 114]] #[{ accessFlags := 1, nameIndex := 5, descriptorIndex := 6, attributes := #[] }] 33 2 #[] #[{ accessFlags := 25, nameIndex := 123, descriptorIndex := 124, attributes := #[] }, { accessFlags := 25, nameIndex := 130, descriptorIndex := 124, attributes := #[] }, { accessFlags := 25, nameIndex := 136, descriptorIndex := 124, attributes := #[] }])
  fields := #[{ name := "SIOOBE_FORMATTER", type := (.object "java/util/function/BiFunction"), accessFlags := 25, slot := 0, constantValue := 0 }, { name := "AIOOBE_FORMATTER", type := (.object "java/util/function/BiFunction"), accessFlags := 25, slot := 1, constantValue := 0 }, { name := "IOOBE_FORMATTER", type := (.object "java/util/function/BiFunction"), accessFlags := 25, slot := 2, constantValue := 0 }]
  methods := #[k13m0]
  instanceTypes := #[]
  staticTypes := #[(.object "java/util/function/BiFunction"), (.object "java/util/function/BiFunction"), (.object "java/util/function/BiFunction")]
  resolved := Array.replicate 194 none
  statics := some 2 }

def pool14 : Array CpInfo := pool [(9, u "<init>"), (6, .class_ 18), (1, u "java/lang/Object"), (0, u "()V"), (1, .class_ 23), (1, u "jdk/internal/util/ArraysSupport"), (0, u "LOG2_ARRAY_LONG_INDEX_SCALE"), (0, u "I"), (2, u "U"), (0, u "Ljdk/internal/misc/Unsafe;"), (8, u "BIG_ENDIAN"), (0, u "Z"), (8, u "LOG2_BYTE_BIT_SIZE"), (4, u "LOG2_ARRAY_INT_INDEX_SCALE"), (54, u "JLA"), (0, u "Ljdk/internal/access/JavaLangAccess;"), (11, u "LOG2_ARRAY_BOOLEAN_INDEX_SCALE"), (9, u "LOG2_ARRAY_BYTE_INDEX_SCALE"), (5, u "LOG2_ARRAY_CHAR_INDEX_SCALE"), (5, u "LOG2_ARRAY_SHORT_INDEX_SCALE"), (18, u "LOG2_ARRAY_FLOAT_INDEX_SCALE"), (24, u "LOG2_ARRAY_DOUBLE_INDEX_SCALE"), (89, u "T_BOOLEAN"), (2, u "T_CHAR"), (1, u "T_FLOAT"), (1, u "T_DOUBLE"), (1, u "T_BYTE"), (1, u "T_SHORT"), (1, u "T_INT"), (1, u "T_LONG"), (1, u "SOFT_MAX_ARRAY_LENGTH")] 83

def k14m0 : Method := { name := "<init>", desc := "()V", sig := { parameters := [], returnType := none }, accessFlags := 2, code := none }
/-- jdk/internal/util/ArraysSupport -/
def k14 : Class := { plain "jdk/internal/util/ArraysSupport" (some 0) with
  accessFlags := 33
  interfaces := #[]
  cf := some (fileOf pool14 21 #[] #[{ accessFlags := 2, nameIndex := 9, descriptorIndex := 19, attributes := #[] }] 33 16 #[] #[{ accessFlags := 24, nameIndex := 28, descriptorIndex := 29, attributes := #[] }, { accessFlags := 26, nameIndex := 38, descriptorIndex := 39, attributes := #[] }, { accessFlags := 25, nameIndex := 121, descriptorIndex := 25, attributes := #[] }, { accessFlags := 25, nameIndex := 131, descriptorIndex := 25, attributes := #[] }, { accessFlags := 25, nameIndex := 137, descriptorIndex := 25, attributes := #[] }, { accessFlags := 25, nameIndex := 143, descriptorIndex := 25, attributes := #[] }, { accessFlags := 25, nameIndex := 53, descriptorIndex := 25, attributes := #[] }, { accessFlags := 25, nameIndex := 24, descriptorIndex := 25, attributes := #[] }, { accessFlags := 25, nameIndex := 162, descriptorIndex := 25, attributes := #[] }, { accessFlags := 25, nameIndex := 187, descriptorIndex := 25, attributes := #[] }, { accessFlags := 26, nameIndex := 48, descriptorIndex := 25, attributes := #[] }, { accessFlags := 25, nameIndex := 277, descriptorIndex := 25, attributes := #[] }, { accessFlags := 25, nameIndex := 280, descriptorIndex := 25, attributes := #[] }, { accessFlags := 25, nameIndex := 282, descriptorIndex := 25, attributes := #[] }, { accessFlags := 25, nameIndex := 284, descriptorIndex := 25, attributes := #[] }, { accessFlags := 25, nameIndex := 286, descriptorIndex := 25, attributes := #[] }, { accessFlags := 25, nameIndex := 288, descriptorIndex := 25, attributes := #[] }, { accessFlags := 25, nameIndex := 290, descriptorIndex := 25, attributes := #[] }, { accessFlags := 25, nameIndex := 292, descriptorIndex := 25, attributes := #[] }, { accessFlags := 26, nameIndex := 108, descriptorIndex := 109, attributes := #[] }, { accessFlags := 25, nameIndex := 294, descriptorIndex := 25, attributes := #[] }])
  fields := #[{ name := "U", type := (.object "jdk/internal/misc/Unsafe"), accessFlags := 24, slot := 0, constantValue := 0 }, { name := "BIG_ENDIAN", type := .boolean, accessFlags := 26, slot := 1, constantValue := 0 }, { name := "LOG2_ARRAY_BOOLEAN_INDEX_SCALE", type := .int, accessFlags := 25, slot := 2, constantValue := 0 }, { name := "LOG2_ARRAY_BYTE_INDEX_SCALE", type := .int, accessFlags := 25, slot := 3, constantValue := 0 }, { name := "LOG2_ARRAY_CHAR_INDEX_SCALE", type := .int, accessFlags := 25, slot := 4, constantValue := 0 }, { name := "LOG2_ARRAY_SHORT_INDEX_SCALE", type := .int, accessFlags := 25, slot := 5, constantValue := 0 }, { name := "LOG2_ARRAY_INT_INDEX_SCALE", type := .int, accessFlags := 25, slot := 6, constantValue := 0 }, { name := "LOG2_ARRAY_LONG_INDEX_SCALE", type := .int, accessFlags := 25, slot := 7, constantValue := 0 }, { name := "LOG2_ARRAY_FLOAT_INDEX_SCALE", type := .int, accessFlags := 25, slot := 8, constantValue := 0 }, { name := "LOG2_ARRAY_DOUBLE_INDEX_SCALE", type := .int, accessFlags := 25, slot := 9, constantValue := 0 }, { name := "LOG2_BYTE_BIT_SIZE", type := .int, accessFlags := 26, slot := 10, constantValue := 0 }, { name := "T_BOOLEAN", type := .int, accessFlags := 25, slot := 11, constantValue := 0 }, { name := "T_CHAR", type := .int, accessFlags := 25, slot := 12, constantValue := 0 }, { name := "T_FLOAT", type := .int, accessFlags := 25, slot := 13, constantValue := 0 }, { name := "T_DOUBLE", type := .int, accessFlags := 25, slot := 14, constantValue := 0 }, { name := "T_BYTE", type := .int, accessFlags := 25, slot := 15, constantValue := 0 }, { name := "T_SHORT", type := .int, accessFlags := 25, slot := 16, constantValue := 0 }, { name := "T_INT", type := .int, accessFlags := 25, slot := 17, constantValue := 0 }, { name := "T_LONG", type := .int, accessFlags := 25, slot := 18, constantValue := 0 }, { name := "JLA", type := (.object "jdk/internal/access/JavaLangAccess"), accessFlags := 26, slot := 19, constantValue := 0 }, { name := "SOFT_MAX_ARRAY_LENGTH", type := .int, accessFlags := 25, slot := 20, constantValue := 0 }]
  methods := #[k14m0]
  instanceTypes := #[]
  staticTypes := #[(.object "jdk/internal/misc/Unsafe"), .boolean, .int, .int, .int, .int, .int, .int, .int, .int, .int, .int, .int, .int, .int, .int, .int, .int, .int, (.object "jdk/internal/access/JavaLangAccess"), .int]
  resolved := Array.replicate 378 none
  statics := none }

/-- the primitive byte -/
def k15 : Class := { plain "byte" none with kind := .primitive 'B', accessFlags := 0x411 }
/-- [B -/
def k16 : Class := { plain "[B" (some 0) with kind := .array 15 .byte, interfaces := #[11, 4], accessFlags := 1041 }

/-- the primitive char -/
def k17 : Class := { plain "char" none with kind := .primitive 'C', accessFlags := 0x411 }
/-- [C -/
def k18 : Class := { plain "[C" (some 0) with kind := .array 17 .char, interfaces := #[11, 4], accessFlags := 1041 }

/-- the primitive int -/
def k19 : Class := { plain "int" none with kind := .primitive 'I', accessFlags := 0x411 }
/-- [I -/
def k20 : Class := { plain "[I" (some 0) with kind := .array 19 .int, interfaces := #[11, 4], accessFlags := 1041 }

/-- [Lcom/example/rolegraph/rolegraph/ColumnRule$Kind; -/
def k21 : Class := { plain "[Lcom/example/rolegraph/rolegraph/ColumnRule$Kind;" (some 0) with kind := .array 6 (.object "com/example/rolegraph/rolegraph/ColumnRule$Kind"), interfaces := #[11, 4], accessFlags := 1041 }

def heap : Heap := #[{ cls := 6, slots := #[.ref 4, .ref 5, .ref 6, .ref 7, .ref 3], vm := .statics 6 },
  { cls := 9, slots := #[.long 0, .int 1, .null, .int 0, .null, .int 0, .int 0], vm := .statics 9 },
  { cls := 13, slots := #[.null, .null, .null], vm := .statics 13 },
  { cls := 21, slots := #[.ref 4, .ref 5, .ref 6, .ref 7], vm := .none },
  { cls := 6, slots := #[.null, .int 0, .int 0, .ref 8], vm := .none },
  { cls := 6, slots := #[.null, .int 0, .int 0, .ref 10], vm := .none },
  { cls := 6, slots := #[.null, .int 0, .int 0, .ref 12], vm := .none },
  { cls := 6, slots := #[.null, .int 0, .int 0, .ref 14], vm := .none },
  { cls := 9, slots := #[.ref 9, .int 0, .int 0, .int 0], vm := .none },
  { cls := 16, slots := #[.int 97, .int 108, .int 108, .int 111, .int 119], vm := .none },
  { cls := 9, slots := #[.ref 11, .int 0, .int 0, .int 0], vm := .none },
  { cls := 16, slots := #[.int 100, .int 101, .int 110, .int 121], vm := .none },
  { cls := 9, slots := #[.ref 13, .int 0, .int 0, .int 0], vm := .none },
  { cls := 16, slots := #[.int 97, .int 108, .int 108], vm := .none },
  { cls := 9, slots := #[.ref 15, .int 0, .int 0, .int 0], vm := .none },
  { cls := 16, slots := #[.int 110, .int 111, .int 110, .int 101], vm := .none }]
def classes : Array Class := #[k0, k1, k2, k3, k4, k5, k6, k7, k8, k9, k10, k11, k12, k13, k14, k15, k16, k17, k18, k19, k20, k21]
def interned : List (Array UInt16 × Addr) := []
def slotsUsed : Nat := 67
def theMethod : MethodId := ⟨1, 1⟩
def args0 : Array Value := #[.int 5, .int 6]
def aboutOver (below : List Frame) : State where
  vm := { classes := classes, interned := interned.toArray }
  heap := heap
  slotsUsed := slotsUsed
  threads := #[{ frames := .invoking theMethod args0 :: below }]
def below0 : List Frame := [.native { method := ⟨0, 0⟩, args := #[] }]
def about1 : State := aboutOver below0
def p0 : Program := .bare "" "" ""
def e0 : Env := launch0.env 0 0 0
theorem w_frames : about1.frames = Frame.invoking theMethod args0 :: below0 := rfl
set_option maxRecDepth 65536 in
theorem w_args : argsFit about1.vm theMethod args0 = true := by decide +kernel
set_option maxRecDepth 65536 in
theorem w_heap : heapFits about1 = true := by decide +kernel
set_option maxRecDepth 65536 in
theorem w_runnable : about1.curStatus? = some .runnable := by decide +kernel
set_option maxRecDepth 65536 in
theorem w_alone : about1.alone = true := by decide +kernel
set_option maxRecDepth 65536 in
theorem w_named : about1.methodNamed? x = some theMethod := by decide +kernel
set_option maxRecDepth 65536 in
theorem w_hears : about1.hears theMethod below0 = true := by decide +kernel
set_option maxRecDepth 65536 in
theorem w_ripe : about1.ripe theMethod args0 below0 = true := by decide +kernel
theorem w_running : about1.status = .running := rfl
set_option maxRecDepth 65536 in
theorem w_room : about1.hasRoom e0.platform room_1 = true :=
  launch0.hasRoom_least _ room_1 (by decide +kernel) (by decide +kernel) (by decide +kernel) (by decide +kernel) (by decide +kernel) (by decide +kernel)
theorem allAtoms_all (ts : List Jvm.Cond) (a : Array Jvm.Value) (st : Jvm.State) : (allAtoms ts).before a st = ts.all (fun c => c.before a st) := by
  induction ts with
  | nil => rfl
  | cons c t ih =>
    show (Jvm.Cond.and c (allAtoms t)).before a st = _
    rw [Jvm.Cond.before_and, ih, List.all_cons]
def words1 : List Jvm.Cond := Jvm.Cond.code x code maxLocals ret :: tables_1
/-- a 'code' word, met by the world's own term for the bytes: nothing is compared byte by byte -/
theorem code_word {y : MethodName} {bytes : ByteArray} {mx : Nat} {rt : Option FieldType} {a : Array Value} {s : State} {m : MethodId} {meth : Method} {c : Code} (h1 : s.methodNamed? y = some m) (h2 : s.vm.method? m = some meth) (h3 : meth.code = some c) (h4 : c.code = bytes)
    (h5 : (c.maxLocals == mx && c.exceptionTable.isEmpty && decide (c.maxStack ≤ mostOperands) && decide (meth.sig.returnType = rt) && !meth.locks && decide (parseMethodDescriptor y.desc = some meth.sig)) = true) : (Jvm.Cond.code y bytes mx rt).before a s = true := by
  simp only [Bool.and_eq_true, beq_iff_eq, Bool.not_eq_true', decide_eq_true_eq] at h5
  obtain ⟨⟨⟨⟨⟨g1, g2⟩, g3⟩, g4⟩, g5⟩, g6⟩ := h5
  simp [Cond.before, Cond.holds, Cond.value, h1, h2, h3, h4, g1, g2, g3, g4, g5, g6]
def isCode : Jvm.Cond → Bool
  | .code _ _ _ _ => true
  | _ => false
theorem all_split {L : List Jvm.Cond} {P : Jvm.Cond → Bool} (h1 : L.all (fun c => isCode c || P c) = true) (h2 : ∀ c ∈ L.filter isCode, P c = true) : L.all P = true := by
  refine List.all_eq_true.mpr fun c hc => ?_
  have h := List.all_eq_true.mp h1 c hc
  rcases Bool.eq_false_or_eq_true (isCode c) with hi | hi
  · exact h2 c (List.mem_filter.mpr ⟨hc, hi⟩)
  · simpa [hi] using h
set_option maxRecDepth 65536 in
theorem w_c0 : (Jvm.Cond.code x code maxLocals ret).before args0 about1 = true := code_word (m := ⟨1, 1⟩) (meth := k1m1) (c := k1c1) (by decide +kernel) rfl rfl rfl (by decide +kernel)
set_option maxRecDepth 65536 in
theorem w_c1 : (Jvm.Cond.code ({ cls := "java/lang/String", name := "<init>", desc := "([C)V" } : Jvm.MethodName) jdk_42_method_3_code (2 : Nat) (Option.none : Option Jvm.ClassFile.FieldType)).before args0 about1 = true := code_word (m := ⟨9, 1⟩) (meth := k9m1) (c := k9c1) (by decide +kernel) rfl rfl rfl (by decide +kernel)
set_option maxRecDepth 65536 in
theorem w_c2 : (Jvm.Cond.code ({ cls := "java/lang/String", name := "<init>", desc := "([CIILjava/lang/Void;)V" } : Jvm.MethodName) jdk_42_method_149_code (6 : Nat) (Option.none : Option Jvm.ClassFile.FieldType)).before args0 about1 = true := code_word (m := ⟨9, 3⟩) (meth := k9m3) (c := k9c3) (by decide +kernel) rfl rfl rfl (by decide +kernel)
set_option maxRecDepth 65536 in
theorem w_c3 : (Jvm.Cond.code ({ cls := "java/lang/Object", name := "<init>", desc := "()V" } : Jvm.MethodName) object_method_1_code (1 : Nat) (Option.none : Option Jvm.ClassFile.FieldType)).before args0 about1 = true := code_word (m := ⟨0, 0⟩) (meth := k0m0) (c := k0c0) (by decide +kernel) rfl rfl rfl (by decide +kernel)
set_option maxRecDepth 65536 in
theorem w_c4 : (Jvm.Cond.code ({ cls := "java/lang/StringUTF16", name := "compress", desc := "([CII)[B" } : Jvm.MethodName) jdk_52_method_16_code (6 : Nat) (Option.some (Jvm.ClassFile.FieldType.array Jvm.ClassFile.FieldType.byte))).before args0 about1 = true := code_word (m := ⟨10, 2⟩) (meth := k10m2) (c := k10c2) (by decide +kernel) rfl rfl rfl (by decide +kernel)
set_option maxRecDepth 65536 in
theorem w_c5 : (Jvm.Cond.code ({ cls := "java/lang/StringUTF16", name := "compress", desc := "([CI[BII)I" } : Jvm.MethodName) jdk_52_method_21_code (7 : Nat) (Option.some Jvm.ClassFile.FieldType.int)).before args0 about1 = true := code_word (m := ⟨10, 3⟩) (meth := k10m3) (c := k10c3) (by decide +kernel) rfl rfl rfl (by decide +kernel)
set_option maxRecDepth 65536 in
theorem w_c6 : (Jvm.Cond.code ({ cls := "java/lang/StringUTF16", name := "coderFromArrayLen", desc := "([BI)B" } : Jvm.MethodName) jdk_52_method_15_code (2 : Nat) (Option.some Jvm.ClassFile.FieldType.byte)).before args0 about1 = true := code_word (m := ⟨10, 1⟩) (meth := k10m1) (c := k10c1) (by decide +kernel) rfl rfl rfl (by decide +kernel)
set_option maxRecDepth 65536 in
theorem w_c7 : (Jvm.Cond.code ({ cls := "com/example/rolegraph/rolegraph/ColumnRule$Kind", name := "of", desc := "(Ljava/lang/String;)Lcom/example/rolegraph/rolegraph/ColumnRule$Kind;" } : Jvm.MethodName) prog_4_method_6_code (5 : Nat) (Option.some (Jvm.ClassFile.FieldType.object "com/example/rolegraph/rolegraph/ColumnRule$Kind"))).before args0 about1 = true := code_word (m := ⟨6, 1⟩) (meth := k6m1) (c := k6c1) (by decide +kernel) rfl rfl rfl (by decide +kernel)
set_option maxRecDepth 65536 in
theorem w_c8 : (Jvm.Cond.code ({ cls := "com/example/rolegraph/rolegraph/ColumnRule$Kind", name := "values", desc := "()[Lcom/example/rolegraph/rolegraph/ColumnRule$Kind;" } : Jvm.MethodName) prog_4_method_1_code (0 : Nat) (Option.some (Jvm.ClassFile.FieldType.array (Jvm.ClassFile.FieldType.object "com/example/rolegraph/rolegraph/ColumnRule$Kind")))).before args0 about1 = true := code_word (m := ⟨6, 0⟩) (meth := k6m0) (c := k6c0) (by decide +kernel) rfl rfl rfl (by decide +kernel)
set_option maxRecDepth 65536 in
theorem w_c9 : (Jvm.Cond.code ({ cls := "java/lang/String", name := "equals", desc := "(Ljava/lang/Object;)Z" } : Jvm.MethodName) jdk_42_method_66_code (3 : Nat) (Option.some Jvm.ClassFile.FieldType.boolean)).before args0 about1 = true := code_word (m := ⟨9, 2⟩) (meth := k9m2) (c := k9c2) (by decide +kernel) rfl rfl rfl (by decide +kernel)
set_option maxRecDepth 65536 in
theorem w_c10 : (Jvm.Cond.code ({ cls := "java/lang/StringLatin1", name := "equals", desc := "([B[B)Z" } : Jvm.MethodName) jdk_43_method_13_code (3 : Nat) (Option.some Jvm.ClassFile.FieldType.boolean)).before args0 about1 = true := code_word (m := ⟨12, 1⟩) (meth := k12m1) (c := k12c1) (by decide +kernel) rfl rfl rfl (by decide +kernel)
def codes1 : List Jvm.Cond := [Jvm.Cond.code x code maxLocals ret, Jvm.Cond.code ({ cls := "java/lang/String", name := "<init>", desc := "([C)V" } : Jvm.MethodName) jdk_42_method_3_code (2 : Nat) (Option.none : Option Jvm.ClassFile.FieldType), Jvm.Cond.code ({ cls := "java/lang/String", name := "<init>", desc := "([CIILjava/lang/Void;)V" } : Jvm.MethodName) jdk_42_method_149_code (6 : Nat) (Option.none : Option Jvm.ClassFile.FieldType), Jvm.Cond.code ({ cls := "java/lang/Object", name := "<init>", desc := "()V" } : Jvm.MethodName) object_method_1_code (1 : Nat) (Option.none : Option Jvm.ClassFile.FieldType), Jvm.Cond.code ({ cls := "java/lang/StringUTF16", name := "compress", desc := "([CII)[B" } : Jvm.MethodName) jdk_52_method_16_code (6 : Nat) (Option.some (Jvm.ClassFile.FieldType.array Jvm.ClassFile.FieldType.byte)), Jvm.Cond.code ({ cls := "java/lang/StringUTF16", name := "compress", desc := "([CI[BII)I" } : Jvm.MethodName) jdk_52_method_21_code (7 : Nat) (Option.some Jvm.ClassFile.FieldType.int), Jvm.Cond.code ({ cls := "java/lang/StringUTF16", name := "coderFromArrayLen", desc := "([BI)B" } : Jvm.MethodName) jdk_52_method_15_code (2 : Nat) (Option.some Jvm.ClassFile.FieldType.byte), Jvm.Cond.code ({ cls := "com/example/rolegraph/rolegraph/ColumnRule$Kind", name := "of", desc := "(Ljava/lang/String;)Lcom/example/rolegraph/rolegraph/ColumnRule$Kind;" } : Jvm.MethodName) prog_4_method_6_code (5 : Nat) (Option.some (Jvm.ClassFile.FieldType.object "com/example/rolegraph/rolegraph/ColumnRule$Kind")), Jvm.Cond.code ({ cls := "com/example/rolegraph/rolegraph/ColumnRule$Kind", name := "values", desc := "()[Lcom/example/rolegraph/rolegraph/ColumnRule$Kind;" } : Jvm.MethodName) prog_4_method_1_code (0 : Nat) (Option.some (Jvm.ClassFile.FieldType.array (Jvm.ClassFile.FieldType.object "com/example/rolegraph/rolegraph/ColumnRule$Kind"))), Jvm.Cond.code ({ cls := "java/lang/String", name := "equals", desc := "(Ljava/lang/Object;)Z" } : Jvm.MethodName) jdk_42_method_66_code (3 : Nat) (Option.some Jvm.ClassFile.FieldType.boolean), Jvm.Cond.code ({ cls := "java/lang/StringLatin1", name := "equals", desc := "([B[B)Z" } : Jvm.MethodName) jdk_43_method_13_code (3 : Nat) (Option.some Jvm.ClassFile.FieldType.boolean)]
set_option maxRecDepth 65536 in
theorem codes_eq : words1.filter isCode = codes1 := rfl
theorem w_codes : ∀ c ∈ words1.filter isCode, c.before args0 about1 = true := by
  rw [codes_eq]
  intro c hc
  simp only [codes1, List.mem_cons, List.not_mem_nil, or_false] at hc
  rcases hc with rfl | rfl | rfl | rfl | rfl | rfl | rfl | rfl | rfl | rfl | rfl
  · exact w_c0
  · exact w_c1
  · exact w_c2
  · exact w_c3
  · exact w_c4
  · exact w_c5
  · exact w_c6
  · exact w_c7
  · exact w_c8
  · exact w_c9
  · exact w_c10
set_option maxRecDepth 65536 in
theorem w_t1 : (words1.take 24).all (fun c => isCode c || c.before args0 about1) = true := by decide +kernel
set_option maxRecDepth 65536 in
theorem w_t2 : ((words1.drop 24).take 24).all (fun c => isCode c || c.before args0 about1) = true := by decide +kernel
set_option maxRecDepth 65536 in
theorem w_t3 : ((words1.drop 24).drop 24).all (fun c => isCode c || c.before args0 about1) = true := by decide +kernel
theorem w_tables : (allAtoms (Jvm.Cond.code x code maxLocals ret :: tables_1)).before args0 about1 = true := by
  rw [allAtoms_all]
  show words1.all (fun c => c.before args0 about1) = true
  refine all_split ?_ w_codes
  rw [← List.take_append_drop 24 words1, List.all_append, w_t1, ← List.take_append_drop 24 (words1.drop 24), List.all_append, w_t2, w_t3]
  rfl
set_option maxRecDepth 65536 in
theorem w_rest : rest_1_c.before args0 about1 = true := by decide +kernel
set_option maxRecDepth 65536 in
theorem w_case : (Jvm.Cond.and given_1 narrow_1).before args0 about1 = true := by decide +kernel
theorem w_applies : (headSpec (Jvm.Cond.code x code maxLocals ret :: tables_1) room_1).applies x e0.platform about1 = true :=
  (Spec.applies_iff w_frames).mpr ⟨w_running, w_runnable, w_alone, w_named, w_hears, w_ripe, w_room, w_tables⟩
theorem atStart : AtStart classFile x code maxLocals ret World_1 tables_1 room_1 Calls_1 rest_1 Pre_1 launch0 p0 e0 about1 theMethod args0 below0 :=
  ⟨lists_1, trivial, launch0.admits_env _ _ _, launch0.least_env, fairChoices_fair.cas, fairChoices_fair.clock, w_frames, w_args, w_heap, w_applies, trivial, w_rest, w_case⟩
end start1
theorem witness_1 : WitnessClaimed_1 := ⟨start1.p0, start1.e0, start1.about1, start1.theMethod, start1.args0, start1.below0, start1.atStart⟩
end Jvm.Pilot.@@N@@
